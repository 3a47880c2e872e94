/-
  Walks of LawS0327AFolders over the contracts of its callees.
-/
import Derived.Test.YbulkftcAbs
import Derived.Test.YbulkftcFolders
namespace Go.Proofs.Ybulkftc
open Go.RowKit

theorem isAbs_true {s : ByteArray} (h : Lib.Pa.isAbs s.data.toList = true) : ∃ hp : 0 < s.size, ((((s[0]'hp).toNat : Nat) : Int) == 47) = true := by
  obtain ⟨⟨l⟩⟩ := s
  cases l with
  | nil => simp [Lib.Pa.isAbs] at h
  | cons x r =>
    simp [Lib.Pa.isAbs] at h
    subst h
    exact ⟨by simp [ByteArray.size], rfl⟩
theorem isAbs_false {s : ByteArray} (h : Lib.Pa.isAbs s.data.toList = false) : ¬ 0 < s.size ∨ ∃ hp : 0 < s.size, ((((s[0]'hp).toNat : Nat) : Int) == 47) = false := by
  obtain ⟨⟨l⟩⟩ := s
  cases l with
  | nil => left; simp [ByteArray.size]
  | cons x r =>
    right
    refine ⟨by simp [ByteArray.size], ?_⟩
    simp [Lib.Pa.isAbs] at h
    rw [beq_eq_false_iff_ne]
    intro hx
    apply h
    have hx' : (x.toNat : Int) = 47 := hx
    apply UInt8.toNat_inj.1
    show x.toNat = 47
    omega

/-- The cells of the Reading that the laws make. -/
def rdCells (f : ByteArray) (d : Value) : Array Value :=
  #[.pointer none, d, .nilFunc, .nilFunc, .nilFunc, .nilFunc, .string ⟨#[]⟩, .bool false, .string f, .slice none 0 0, .map none, .slice none 0 0, .map none, .int .i64 0, .int .i64 0, .int .i64 0, .bool false, .bool false]

set_option maxHeartbeats 400000 in
theorem fold_long (s f : ByteArray) (a : Option Addr) (len cap : Nat) (w : World) (hl : 1024 < len) :
    Calls Yba.prog 3 #[.string s, .string f, .slice a len cap] w fun e w' => e = .returned (.bool true) ∧ Below w.heap.size w w' := by
  have h' : (1024 : Int) < (len : Int) := by omega
  go_enter Yba.func3, Yba.ntmps3
  go_wp2
  go_ret
  exact ⟨rfl, Below.refl _ _⟩

set_option maxHeartbeats 400000 in
theorem fold_abs (s f : ByteArray) (a : Option Addr) (len cap : Nat) (w : World) (hl : len ≤ 1024) (h : Lib.Pa.isAbs s.data.toList = true) :
    Calls Yba.prog 3 #[.string s, .string f, .slice a len cap] w fun e w' => e = .returned (.bool true) ∧ Below w.heap.size w w' := by
  have h' : ¬ (1024 : Int) < (len : Int) := by omega
  obtain ⟨hp, h47⟩ := isAbs_true h
  have H : Hid (Lib.Pa.isAbs s.data.toList = true) := h
  clear h
  go_enter Yba.func3, Yba.ntmps3
  go_wp2_with fail
  refine (searched_abs _ _ _ H.out).mono ?_
  rintro e w' ⟨rfl, rfl⟩
  go_wp2_with fail
  go_ret
  exact ⟨rfl, ((Below.refl _ _).alloc (Nat.le_refl _) _).alloc (by simp) _⟩

set_option maxHeartbeats 400000 in
theorem searched_rel (b : Nat) (s : ByteArray) (w : World) (R : Value → World → Prop) (h : Lib.Pa.isAbs s.data.toList = false)
    (HF : Hid (Calls Yba.prog 8 #[.pointer (some ⟨b, 0, none⟩)] w fun e w' => ∃ v', e = .returned v' ∧ R v' w')) :
    Calls Yba.prog 5 #[.pointer (some ⟨b, 0, none⟩), .string s] w fun e w' => ∃ v', e = .returned v' ∧ R v' w' := by
  go_enter Yba.func5, Yba.ntmps5
  go_wp2_with (go_at_call 7; refine (Yba.filepath_IsAbs _ _).mono ?_; rintro e w' ⟨rfl, rfl⟩)
  refine HF.out.mono ?_
  rintro e w' ⟨v', rfl, hR⟩
  have HR : Hid (R v' w') := hR
  clear hR
  go_wp2_with fail
  go_ret
  exact ⟨v', rfl, HR.out⟩

/-- What 'ownsRow' says of the slice that folders hands back. -/
theorem out_open {w : World} {B n : Nat} {f : ByteArray} {news : List Value} {v : Value} (h : w.ownsRow B 9 1 v (1 + n) ([.string f] ++ news)) :
    ∃ g cap, v = .slice (some ⟨g, 0, none⟩) (1 + n) cap ∧ w.cell? ⟨g, 0, none⟩ = some (.string f) ∧ (∀ j u, news[j]? = some u → w.cell? ⟨g, j + 1, none⟩ = some u) := by
  have hk := fun g (hg : v.ownBlock = some g) => h.cells hg
  rcases h.2 with ⟨_, h0⟩ | ⟨g, cap, cur, rfl, hg, hh, hc1, hc2, _⟩
  · omega
  · have hk' := hk g rfl
    refine ⟨g, cap, rfl, ?_, ?_⟩
    · have := hk' 0 (.string f) rfl
      simpa [Addr.add_lit] using this
    · intro j u hj
      have := hk' (j + 1) u (by simpa using hj)
      simpa [Addr.add_lit] using this

set_option maxHeartbeats 400000 in
theorem fold_rel (s f : ByteArray) (a : Option Addr) (n c : Nat) (news : List Value) (w : World) (hl : n ≤ 1024) (hno : ¬ 0 < s.size ∨ ∃ hp : 0 < s.size, ((((s[0]'hp).toNat : Nat) : Int) == 47) = false)
    (HS : Hid (Calls Yba.prog 5 #[.pointer (some ⟨w.heap.size, 0, none⟩), .string s] (w.alloc (.cells (rdCells f (.slice a n c)) 37)) fun e w' => ∃ v', e = .returned v' ∧ w'.ownsRow (w.heap.size + 1) 9 1 v' (1 + n) ([.string f] ++ news) ∧ Below (w.heap.size + 1) (w.alloc (.cells (rdCells f (.slice a n c)) 37)) w'))
    (HE : Hid (∀ (g cap : Nat) (W : World), W.cell? ⟨g, 0, none⟩ = some (.string f) → (∀ j u, news[j]? = some u → W.cell? ⟨g, j + 1, none⟩ = some u) → Below w.heap.size w W → Calls Yba.prog 6 #[.slice (some ⟨g, 0, none⟩) (1 + n) cap, .string f, .slice a n c] W fun e w' => e = .returned (.bool true) ∧ ∃ k, w' = W.drewN k)) :
    Calls Yba.prog 3 #[.string s, .string f, .slice a n c] w fun e w' => e = .returned (.bool true) ∧ Below w.heap.size w w' := by
  have h' : ¬ (1024 : Int) < (n : Int) := by omega
  rcases hno with hno | ⟨hp, h47⟩
  all_goals
    go_enter Yba.func3, Yba.ntmps3
    go_wp2_with fail
    refine (HS.out : Calls _ _ _ _ _).mono ?_
    rintro e w1 ⟨v1, rfl, hown, hb1⟩
    obtain ⟨g, cap, hv, hc0, hcs⟩ := out_open hown
    rw [hv]
    have hbw : Below w.heap.size w w1 := ((Below.refl _ _).alloc (Nat.le_refl _) _).trans (hb1.mono (by omega))
    have HC : Hid (Calls Yba.prog 6 #[.slice (some ⟨g, 0, none⟩) (1 + n) cap, .string f, .slice a n c] w1 fun e w' => e = .returned (.bool true) ∧ ∃ k, w' = w1.drewN k) := HE.out g cap w1 hc0 hcs hbw
    clear hv hown hcs HE HS hb1 hc0
    go_wp2_with fail
    refine (HC.out : Calls _ _ _ _ _).mono ?_
    rintro e w5 ⟨rfl, k, rfl⟩
    go_wp2_with fail
    go_ret
    exact ⟨rfl, hbw.os, hbw.tape, hbw.output, hbw.size, hbw.block⟩
end Go.Proofs.Ybulkftc
