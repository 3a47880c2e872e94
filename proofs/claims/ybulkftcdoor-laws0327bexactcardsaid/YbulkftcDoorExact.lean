/-
  Walks of LawS0327BExact, one a way, over the contracts of its callees.
-/
import Derived.Test.YbulkftcDoorCited
import Derived.Test.YbulkftcDoorBitoa
namespace Go.Proofs.YbulkftcDoor
open Go.RowKit

set_option maxHeartbeats 1000000 in
theorem exact_ne (f I g : ByteArray) (n : Int) (w : World) (hf : f.size ≤ 140737488351232) (hI : I.size ≤ 21) (hne : (f.toList == g.toList) = false)
    (H : Hid (∀ W, Below w.heap.size w W → Calls Ybad.prog 8 #[.int .i64 n] W fun e w' => e = .returned (.string I) ∧ Below W.heap.size W w'))
    (HB : Hid (∀ W, Calls Ybad.prog 6 #[.int .i64 n] W fun e w' => e = .returned (.string I) ∧ Below W.heap.size W w')) :
    Calls Ybad.prog 3 #[.string f, .int .i64 n, .string g, .bool false] w fun e w' => e = .returned (.bool true) ∧ Below w.heap.size w w' := by
  have a1 := fun (w : World) => run_string_add_sum (P := Ybad.prog) w f ⟨#[58]⟩ (by show f.size + 1 ≤ _; omega)
  have a2 := fun (w : World) => run_string_add_sum (P := Ybad.prog) w (f ++ ⟨#[58]⟩) I (by rw [ByteArray.size_append]; show f.size + 1 + I.size ≤ _; omega)
  go_enter Ybad.func3, Ybad.ntmps3
  go_wp2_with fail
  refine (cited_ne f I g n _ hf hI hne ?hh).mono ?_
  case hh => exact fun W hW => H.out W (((Below.refl _ _).alloc (Nat.le_refl _) _).trans (hW.mono (by simp)))
  rintro e w1 ⟨rfl, hb1⟩
  have hbw : Below w.heap.size w w1 := ((Below.refl _ _).alloc (Nat.le_refl _) _).trans (hb1.mono (by simp))
  clear hb1
  go_wp2_with fail
  refine (HB.out _).mono ?_
  rintro e w2 ⟨rfl, hb2⟩
  have hbw2 : Below w.heap.size w w2 := hbw.trans (hb2.mono hbw.size)
  clear hb2
  go_wp2_with fail
  go_ret
  exact ⟨rfl, hbw2⟩

set_option maxHeartbeats 1000000 in
theorem exact_eq (f I : ByteArray) (n : Int) (w : World) (hI : I.size ≤ 21)
    (H : Hid (∀ W, Below w.heap.size w W → Calls Ybad.prog 8 #[.int .i64 n] W fun e w' => e = .returned (.string I) ∧ Below W.heap.size W w'))
    (HB : Hid (∀ W, Calls Ybad.prog 6 #[.int .i64 n] W fun e w' => e = .returned (.string I) ∧ Below W.heap.size W w')) :
    Calls Ybad.prog 3 #[.string f, .int .i64 n, .string f, .bool false] w fun e w' => e = .returned (.bool true) ∧ Below w.heap.size w w' := by
  have a1 := fun (w : World) => run_string_add_sum (P := Ybad.prog) w ⟨#[108, 105, 110, 101, 32]⟩ I (by show 5 + I.size ≤ _; omega)
  go_enter Ybad.func3, Ybad.ntmps3
  go_wp2_with fail
  refine (cited_eq f I n _ hI ?hh).mono ?_
  case hh => exact fun W hW => H.out W (((Below.refl _ _).alloc (Nat.le_refl _) _).trans (hW.mono (by simp)))
  rintro e w1 ⟨rfl, hb1⟩
  have hbw : Below w.heap.size w w1 := ((Below.refl _ _).alloc (Nat.le_refl _) _).trans (hb1.mono (by simp))
  clear hb1
  go_wp2_with fail
  refine (HB.out _).mono ?_
  rintro e w2 ⟨rfl, hb2⟩
  have hbw2 : Below w.heap.size w w2 := hbw.trans (hb2.mono hbw.size)
  clear hb2
  go_wp2_with fail
  go_ret
  exact ⟨rfl, hbw2⟩

set_option maxHeartbeats 1000000 in
theorem exact_same (f I g : ByteArray) (n : Int) (w : World) (hI : I.size ≤ 21)
    (H : Hid (∀ W, Below w.heap.size w W → Calls Ybad.prog 8 #[.int .i64 n] W fun e w' => e = .returned (.string I) ∧ Below W.heap.size W w'))
    (HB : Hid (∀ W, Calls Ybad.prog 6 #[.int .i64 n] W fun e w' => e = .returned (.string I) ∧ Below W.heap.size W w')) :
    Calls Ybad.prog 3 #[.string f, .int .i64 n, .string g, .bool true] w fun e w' => e = .returned (.bool true) ∧ Below w.heap.size w w' := by
  have a1 := fun (w : World) => run_string_add_sum (P := Ybad.prog) w ⟨#[108, 105, 110, 101, 32]⟩ I (by show 5 + I.size ≤ _; omega)
  go_enter Ybad.func3, Ybad.ntmps3
  go_wp2_with fail
  refine (cited_eq f I n _ hI ?hh).mono ?_
  case hh => exact fun W hW => H.out W (((Below.refl _ _).alloc (Nat.le_refl _) _).trans (hW.mono (by simp)))
  rintro e w1 ⟨rfl, hb1⟩
  have hbw : Below w.heap.size w w1 := ((Below.refl _ _).alloc (Nat.le_refl _) _).trans (hb1.mono (by simp))
  clear hb1
  go_wp2_with fail
  refine (HB.out _).mono ?_
  rintro e w2 ⟨rfl, hb2⟩
  have hbw2 : Below w.heap.size w w2 := hbw.trans (hb2.mono hbw.size)
  clear hb2
  go_wp2_with fail
  go_ret
  exact ⟨rfl, hbw2⟩
end Go.Proofs.YbulkftcDoor
