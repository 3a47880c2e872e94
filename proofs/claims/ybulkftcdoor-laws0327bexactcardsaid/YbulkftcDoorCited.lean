/-
  Contracts of (Origin).String and (Origin).Cited, over strconv.Itoa's.
-/
import Derived.Test.YbulkftcDoorItoa
import Derived.WalkKit
import Derived.ProofKit
import Derived.Laws.Concat
import Derived.RegionTactic
import Derived.Deep.RegionWith
import Derived.Deep.DeepMust
namespace Go.Proofs.YbulkftcDoor
open Go.RowKit

set_option maxHeartbeats 1000000 in
theorem string_any (f I : ByteArray) (n : Int) (w : World) (hf : f.size ≤ 140737488351232) (hI : I.size ≤ 21)
    (H : Hid (∀ W, Below w.heap.size w W → Calls Ybad.prog 8 #[.int .i64 n] W fun e w' => e = .returned (.string I) ∧ Below W.heap.size W w')) :
    Calls Ybad.prog 7 #[.agg #[.string f, .int .i64 n]] w fun e w' => e = .returned (.string (f ++ ⟨#[58]⟩ ++ I)) ∧ Below w.heap.size w w' := by
  have a1 := fun (w : World) => run_string_add_sum (P := Ybad.prog) w f ⟨#[58]⟩ (by show f.size + 1 ≤ _; omega)
  have a2 := fun (w : World) => run_string_add_sum (P := Ybad.prog) w (f ++ ⟨#[58]⟩) I (by rw [ByteArray.size_append]; show f.size + 1 + I.size ≤ _; omega)
  go_enter Ybad.func7, Ybad.ntmps7
  go_wp2
  go_region_with (go_at_call 8; go_must (refine (H.out _ ?_).mono ?_; (exact ((Below.refl _ _).alloc (Nat.le_refl _) _).drew); rintro e w1 ⟨rfl, hb1⟩; have q0 : w1.cell? ⟨w.heap.size, 0, none⟩ = some (.string f) := by (rw [hb1.cell (p := ⟨w.heap.size, 0, none⟩) (by simp)]; simp)))
  all_goals
    go_wp2
    go_ret
    exact ⟨rfl, (((Below.refl _ _).alloc (Nat.le_refl _) _).drew).trans (hb1.mono (by simp))⟩

set_option maxHeartbeats 1000000 in
theorem cited_eq (f I : ByteArray) (n : Int) (w : World) (hI : I.size ≤ 21)
    (H : Hid (∀ W, Below w.heap.size w W → Calls Ybad.prog 8 #[.int .i64 n] W fun e w' => e = .returned (.string I) ∧ Below W.heap.size W w')) :
    Calls Ybad.prog 5 #[.agg #[.string f, .int .i64 n], .string f] w fun e w' => e = .returned (.string (⟨#[108, 105, 110, 101, 32]⟩ ++ I)) ∧ Below w.heap.size w w' := by
  have a1 := fun (w : World) => run_string_add_sum (P := Ybad.prog) w ⟨#[108, 105, 110, 101, 32]⟩ I (by show 5 + I.size ≤ _; omega)
  go_enter Ybad.func5, Ybad.ntmps5
  go_wp2_with fail
  refine (H.out _ ?hb).mono ?_
  case hb => exact (Below.refl _ _).alloc (Nat.le_refl _) _
  rintro e w1 ⟨rfl, hb1⟩
  go_wp2_with fail
  go_ret
  exact ⟨rfl, ((Below.refl _ _).alloc (Nat.le_refl _) _).trans (hb1.mono (by simp))⟩

set_option maxHeartbeats 1000000 in
theorem cited_ne (f I g : ByteArray) (n : Int) (w : World) (hf : f.size ≤ 140737488351232) (hI : I.size ≤ 21) (hne : (f.toList == g.toList) = false)
    (H : Hid (∀ W, Below w.heap.size w W → Calls Ybad.prog 8 #[.int .i64 n] W fun e w' => e = .returned (.string I) ∧ Below W.heap.size W w')) :
    Calls Ybad.prog 5 #[.agg #[.string f, .int .i64 n], .string g] w fun e w' => e = .returned (.string (f ++ ⟨#[58]⟩ ++ I)) ∧ Below w.heap.size w w' := by
  go_enter Ybad.func5, Ybad.ntmps5
  go_wp2_with fail
  refine (string_any f I n _ hf hI ?hh).mono ?_
  case hh => exact fun W hW => H.out W (((Below.refl _ _).alloc (Nat.le_refl _) _).trans (hW.mono (by simp)))
  rintro e w1 ⟨rfl, hb1⟩
  go_wp2_with fail
  go_ret
  exact ⟨rfl, ((Below.refl _ _).alloc (Nat.le_refl _) _).trans (hb1.mono (by simp))⟩
end Go.Proofs.YbulkftcDoor
