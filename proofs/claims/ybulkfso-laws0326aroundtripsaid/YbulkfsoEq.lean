/-
  Contracts of wire.zzs0326aeq: two slices of no bytes; two slices of the same bytes.
-/
import Derived.Test.YbulkfsoRows
import Derived.WalkKit
import Derived.ProofKit
import Derived.Below
import Derived.Deep.QuietTactic
import Derived.BigQuiet

namespace Go.Proofs.Ybulkfso
open Go.RowKit

set_option maxHeartbeats 400000 in
theorem eq_empty (x y : Option Addr) (c1 c2 : Nat) (w : World) :
    Calls Yba.prog 10 #[.slice x 0 c1, .slice y 0 c2] w fun e w' => e = .returned (.bool true) ∧ w' = w := by
  go_enter Yba.func10, Yba.ntmps10
  go_wp2
  go_loop [5] (fun i => i = .int .i64 0) (fun _ => 0)
  case atStart => rfl
  case round =>
    subst hrel
    go_wp2
    go_ret
    exact ⟨rfl, rfl⟩

set_option maxHeartbeats 400000 in
theorem eq_same (g1 o1 g2 o2 n c1 c2 : Nat) (zs : List Int) (w : World) (hn : n ≤ 4096)
    (h1 : ∀ j, j < n → w.cell? ⟨g1, o1 + j, none⟩ = some (.int .u8 (zs.getD j 0))) (h2 : ∀ j, j < n → w.cell? ⟨g2, o2 + j, none⟩ = some (.int .u8 (zs.getD j 0))) :
    Calls Yba.prog 10 #[.slice (some ⟨g1, o1, none⟩) n c1, .slice (some ⟨g2, o2, none⟩) n c2] w fun e w' => e = .returned (.bool true) ∧ ∃ k, w' = w.drewN k := by
  go_enter Yba.func10, Yba.ntmps10
  go_wp2
  go_loopw [5] (fun i w' => ∃ k : Nat, k ≤ n ∧ i = .int .i64 k ∧ ∃ d, w' = w.drewN d) (fun i _ => n - (intOf i).toNat)
  case atStart => exact ⟨0, Nat.zero_le _, rfl, 0, rfl⟩
  case round =>
    obtain ⟨k, hk, rfl, d, rfl⟩ := hrel
    by_cases hlt : k < n
    · have a1 := h1 k hlt
      have a2 := h2 k hlt
      clear h1 h2
      generalize zs.getD k 0 = z at a1 a2
      go_wp2
      go_quiet (fail)
      go_wp2
      go_roundw
      case rel => exact ⟨k + 1, hlt, by go_num, _, rfl⟩
      case measure => simp [intOf]; omega
    · clear h1 h2
      have hkn : k = n := by omega
      subst hkn
      go_wp2
      go_ret
      exact ⟨rfl, d, rfl⟩
end Go.Proofs.Ybulkfso
