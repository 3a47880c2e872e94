/-
  Contracts of (*Reading).folders and of config.zzs0327aeq.
-/
import Derived.Test.YbulkftcRows
import Derived.Test.YbulkftcShelf
import Derived.WalkKit
import Derived.ProofKit
import Derived.Below
import Derived.OwnWalk
import Derived.RegionTactic
import Derived.Deep.RegionLawGrows
import Derived.Deep.QuietTactic
import Derived.BigQuiet
namespace Go.Proofs.Ybulkftc
open Go.RowKit
theorem info9 : (Yba.prog.info? 9).map (fun i => (i.zero, i.size, i.bytes)) = some (some (.string ByteArray.empty), 1, 16) := by kernel_rfl

theorem own_le {w : World} {B B' : Nat} {e : TypeId} {size n : Nat} {v : Value} {xs : List Value} (h : w.ownsRow B e size v n xs) (hle : B' ≤ B) : w.ownsRow B' e size v n xs := by
  obtain ⟨h1, h2⟩ := h
  refine ⟨h1, ?_⟩
  rcases h2 with h2 | ⟨g, cap, cur, hv, hg, r⟩
  · exact .inl h2
  · exact .inr ⟨g, cap, cur, hv, Nat.le_trans hle hg, r⟩
theorem olds_cell (w : World) (f : ByteArray) : ∀ b, some (⟨w.heap.size, 0, none⟩ : Addr) = some b → ∀ j u, [Value.string f][j]? = some u → (w.alloc (.cells #[.string f] 9)).drew.cell? (b.add j) = some u := by
  intro b hb j u hj
  cases hb
  match j, hj with
  | 0, hj => simp at hj; subst hj; simp [Addr.add]

set_option maxHeartbeats 1000000 in
theorem folders_nil (b : Nat) (f : ByteArray) (w : World) (q1 : w.cell? ⟨b, 1, none⟩ = some (.slice none 0 0)) (q8 : w.cell? ⟨b, 8, none⟩ = some (.string f)) :
    Calls Yba.prog 8 #[.pointer (some ⟨b, 0, none⟩)] w fun e w' => ∃ v', e = .returned v' ∧ w'.ownsRow w.heap.size 9 1 v' 1 [.string f] ∧ Below w.heap.size w w' := by
  have hb : b < w.heap.size := World.block_lt_of_cell? w _ q1
  have r1 : ∀ o, (w.alloc o).cell? ⟨b, 1, none⟩ = some (.slice none 0 0) := fun o => by rw [World.cell?_alloc_lt _ _ ⟨b, 1, none⟩ hb]; exact q1
  have r8 : ∀ o, (w.alloc o).cell? ⟨b, 8, none⟩ = some (.string f) := fun o => by rw [World.cell?_alloc_lt _ _ ⟨b, 8, none⟩ hb]; exact q8
  go_enter Yba.func8, Yba.ntmps8
  go_wp2_with fail
  go_region
  all_goals
    go_wp2
    go_ret
    refine ⟨_, rfl, ?_, ((Below.refl _ _).alloc (Nat.le_refl _) _).drew⟩
    exact ⟨rfl, .inr ⟨w.heap.size, 1, _, rfl, Nat.le_refl _, heap_alloc_new w _, Nat.le_refl _, by decide, rfl, rfl⟩⟩

set_option maxHeartbeats 1000000 in
theorem folders_empty (b : Nat) (f : ByteArray) (a : Addr) (c : Nat) (w : World) (q1 : w.cell? ⟨b, 1, none⟩ = some (.slice (some a) 0 c)) (q8 : w.cell? ⟨b, 8, none⟩ = some (.string f)) :
    Calls Yba.prog 8 #[.pointer (some ⟨b, 0, none⟩)] w fun e w' => ∃ v', e = .returned v' ∧ w'.ownsRow w.heap.size 9 1 v' 1 [.string f] ∧ Below w.heap.size w w' := by
  have hb : b < w.heap.size := World.block_lt_of_cell? w _ q1
  have r1 : ∀ o, (w.alloc o).cell? ⟨b, 1, none⟩ = some (.slice (some a) 0 c) := fun o => by rw [World.cell?_alloc_lt _ _ ⟨b, 1, none⟩ hb]; exact q1
  have r8 : ∀ o, (w.alloc o).cell? ⟨b, 8, none⟩ = some (.string f) := fun o => by rw [World.cell?_alloc_lt _ _ ⟨b, 8, none⟩ hb]; exact q8
  go_enter Yba.func8, Yba.ntmps8
  go_wp2_with fail
  go_region
  all_goals
    go_wp2
    go_ret
    refine ⟨_, rfl, ?_, ((Below.refl _ _).alloc (Nat.le_refl _) _).drew⟩
    exact ⟨rfl, .inr ⟨w.heap.size, 1, _, rfl, Nat.le_refl _, heap_alloc_new w _, Nat.le_refl _, by decide, rfl, rfl⟩⟩

set_option maxHeartbeats 1000000 in
theorem folders_some (b : Nat) (f : ByteArray) (a : Addr) (n c : Nat) (news : List Value) (w : World) (q1 : w.cell? ⟨b, 1, none⟩ = some (.slice (some a) n c)) (q8 : w.cell? ⟨b, 8, none⟩ = some (.string f))
    (hn : n ≤ 1024) (h0 : 0 < n) (hl : news.length = n) (hc : ∀ j u, news[j]? = some u → w.cell? (a.add j) = some u) (h1 : ∀ u ∈ news, u.oneCell' = true) :
    Calls Yba.prog 8 #[.pointer (some ⟨b, 0, none⟩)] w fun e w' => ∃ v', e = .returned v' ∧ w'.ownsRow w.heap.size 9 1 v' (1 + n) ([.string f] ++ news) ∧ Below w.heap.size w w' := by
  have hb : b < w.heap.size := World.block_lt_of_cell? w _ q1
  have r1 : ∀ o, (w.alloc o).cell? ⟨b, 1, none⟩ = some (.slice (some a) n c) := fun o => by rw [World.cell?_alloc_lt _ _ ⟨b, 1, none⟩ hb]; exact q1
  have r8 : ∀ o, (w.alloc o).cell? ⟨b, 8, none⟩ = some (.string f) := fun o => by rw [World.cell?_alloc_lt _ _ ⟨b, 8, none⟩ hb]; exact q8
  obtain ⟨i0, hi0, hz0, hz1, hz2⟩ := info_parts info9
  have HC : Hid (∀ j u, news[j]? = some u → (w.alloc (.cells #[.string f] 9)).drew.cell? (a.add j) = some u) := fun j u hj => by
    have := hc j u hj
    exact (World.cell?_alloc_lt _ _ _ (World.block_lt_of_cell? w _ this)).trans this
  clear hc
  have H1 : Hid (∀ u ∈ news, u.oneCell' = true) := h1
  have HL : Hid (news.length = n) := hl
  clear h1 hl
  go_enter Yba.func8, Yba.ntmps8
  go_wp2_with fail
  go_region_law (refine step_append_grows rfl (.tmp 7) (.tmp 12) 22 rfl 9 i0 (.string ByteArray.empty) 1 16 Yba.underlying22 hi0 hz0 hz1 hz2 rfl (by decide) (some ⟨w.heap.size, 0, none⟩) 1 1 [.string f] (by simp [Act.eval]) (fun h => by cases h) rfl (olds_cell w f) a n c news (by simp [Act.eval]) (by rw [HL.out, Nat.mul_one]) HC.out H1.out (by omega) (by unfold maxLen; omega) (by omega) ?_; intro v' w' hown hgrow)
  all_goals
    go_wp2
    go_ret
    refine ⟨v', rfl, own_le hown (by simp), ?_⟩
    exact ((Below.refl _ _).alloc (Nat.le_refl _) _).drew.grown hgrow (by simp) (fun k hk => by cases hk)

set_option maxHeartbeats 1000000 in
theorem eq_same (g cap : Nat) (f : ByteArray) (xb xo n c : Nat) (ss : List ByteArray) (w : World) (hn : n ≤ 1024)
    (h0 : w.cell? ⟨g, 0, none⟩ = some (.string f)) (h1 : ∀ j, j < n → w.cell? ⟨g, j + 1, none⟩ = some (.string (ss.getD j ByteArray.empty))) (h2 : ∀ j, j < n → w.cell? ⟨xb, xo + j, none⟩ = some (.string (ss.getD j ByteArray.empty))) :
    Calls Yba.prog 6 #[.slice (some ⟨g, 0, none⟩) (1 + n) cap, .string f, .slice (some ⟨xb, xo, none⟩) n c] w fun e w' => e = .returned (.bool true) ∧ ∃ k, w' = w.drewN k := by
  go_enter Yba.func6, Yba.ntmps6
  go_wp2
  go_loopw [7] (fun i w' => ∃ k : Nat, k ≤ n ∧ i = .int .i64 k ∧ ∃ d, w' = w.drewN d) (fun i _ => n - (intOf i).toNat)
  case atStart => exact ⟨0, Nat.zero_le _, rfl, 0, rfl⟩
  case round =>
    obtain ⟨k, hk, rfl, d, rfl⟩ := hrel
    by_cases hlt : k < n
    · have a1 := h1 k hlt
      have a2 := h2 k hlt
      clear h1 h2
      generalize ss.getD k ByteArray.empty = z at a1 a2
      go_wp2
      go_quiet (fail)
      go_wp2
      go_roundw
      case rel => exact ⟨k + 1, hlt, by go_num, _, rfl⟩
      case measure => simp [intOf]; omega
    · clear h1 h2
      have hkn : k = n := by omega
      subst hkn
      go_wp2
      go_ret
      exact ⟨rfl, d, rfl⟩

set_option maxHeartbeats 400000 in
theorem eq_empty (g cap : Nat) (f : ByteArray) (a : Option Addr) (c : Nat) (w : World) (h0 : w.cell? ⟨g, 0, none⟩ = some (.string f)) :
    Calls Yba.prog 6 #[.slice (some ⟨g, 0, none⟩) 1 cap, .string f, .slice a 0 c] w fun e w' => e = .returned (.bool true) ∧ w' = w := by
  go_enter Yba.func6, Yba.ntmps6
  go_wp2
  go_loop [7] (fun i => i = .int .i64 0) (fun _ => 0)
  case atStart => rfl
  case round =>
    subst hrel
    go_wp2
    go_ret
    exact ⟨rfl, rfl⟩
end Go.Proofs.Ybulkftc
