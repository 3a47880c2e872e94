/-
  Walks of LawS0327BAgree, one a way, over the contracts of its callees.
-/
import Derived.Test.YbulkftcDoorCited
import Derived.WalkSpells
namespace Go.Proofs.YbulkftcDoor
open Go.RowKit

theorem cut_left (f I : ByteArray) : (f ++ ⟨#[58]⟩ ++ I).extract 0 (f.size + 1) = f ++ ⟨#[58]⟩ := by
  apply ByteArray.extract_append_eq_left
  rw [ByteArray.size_append]; rfl
theorem cut_right (f I : ByteArray) : (f ++ ⟨#[58]⟩ ++ I).extract (f.size + 1) (f.size + 1 + I.size) = I := by
  apply ByteArray.extract_append_eq_right
  · rw [ByteArray.size_append]; rfl
  · rw [ByteArray.size_append]; rfl

set_option maxHeartbeats 1000000 in
theorem agree_ne (f I g : ByteArray) (n : Int) (w : World) (hf : f.size ≤ 140737488351232) (hI : I.size ≤ 21) (hne : (f.toList == g.toList) = false)
    (H : Hid (∀ W, Below w.heap.size w W → Calls Ybad.prog 8 #[.int .i64 n] W fun e w' => e = .returned (.string I) ∧ Below W.heap.size W w')) :
    Calls Ybad.prog 4 #[.string f, .int .i64 n, .string g, .bool false] w fun e w' => e = .returned (.bool true) ∧ Below w.heap.size w w' := by
  go_enter Ybad.func4, Ybad.ntmps4
  go_wp2_with fail
  refine (cited_ne f I g n _ hf hI hne ?hh).mono ?_
  case hh => exact fun W hW => H.out W (((Below.refl _ _).alloc (Nat.le_refl _) _).trans (hW.mono (by simp)))
  rintro e w1 ⟨rfl, hb1⟩
  have hbw : Below w.heap.size w w1 := ((Below.refl _ _).alloc (Nat.le_refl _) _).trans (hb1.mono (by simp))
  have q0 : w1.cell? ⟨w.heap.size, 0, none⟩ = some (.string f) := by rw [hb1.cell (p := ⟨w.heap.size, 0, none⟩) (by simp)]; simp
  have q1 : w1.cell? ⟨w.heap.size, 1, none⟩ = some (.int .i64 n) := by rw [hb1.cell (p := ⟨w.heap.size, 1, none⟩) (by simp)]; simp
  clear hb1
  go_wp2_with fail
  refine (string_any f I n _ hf hI ?hh).mono ?_
  case hh => exact fun W hW => H.out W (hbw.trans (hW.mono hbw.size))
  rintro e w2 ⟨rfl, hb2⟩
  have hbw2 : Below w.heap.size w w2 := hbw.trans (hb2.mono hbw.size)
  clear q0 q1 hb2
  go_wp2_with fail
  go_ret
  exact ⟨rfl, hbw2⟩

set_option maxHeartbeats 1000000 in
theorem agree_eq (f I : ByteArray) (n : Int) (w : World) (hf : f.size ≤ 140737488351232) (hI : I.size ≤ 21)
    (H : Hid (∀ W, Below w.heap.size w W → Calls Ybad.prog 8 #[.int .i64 n] W fun e w' => e = .returned (.string I) ∧ Below W.heap.size W w')) :
    Calls Ybad.prog 4 #[.string f, .int .i64 n, .string f, .bool false] w fun e w' => e = .returned (.bool true) ∧ Below w.heap.size w w' := by
  go_enter Ybad.func4, Ybad.ntmps4
  go_wp2_with fail
  refine (cited_eq f I n _ hI ?hh).mono ?_
  case hh => exact fun W hW => H.out W (((Below.refl _ _).alloc (Nat.le_refl _) _).trans (hW.mono (by simp)))
  rintro e w1 ⟨rfl, hb1⟩
  have hbw : Below w.heap.size w w1 := ((Below.refl _ _).alloc (Nat.le_refl _) _).trans (hb1.mono (by simp))
  have q0 : w1.cell? ⟨w.heap.size, 0, none⟩ = some (.string f) := by rw [hb1.cell (p := ⟨w.heap.size, 0, none⟩) (by simp)]; simp
  have q1 : w1.cell? ⟨w.heap.size, 1, none⟩ = some (.int .i64 n) := by rw [hb1.cell (p := ⟨w.heap.size, 1, none⟩) (by simp)]; simp
  clear hb1
  go_wp2_with fail
  refine (string_any f I n _ hf hI ?hh).mono ?_
  case hh => exact fun W hW => H.out W (hbw.trans (hW.mono hbw.size))
  rintro e w2 ⟨rfl, hb2⟩
  have hbw2 : Below w.heap.size w w2 := hbw.trans (hb2.mono hbw.size)
  clear q0 q1 hb2
  have a1 := fun (w : World) => run_string_add_sum (P := Ybad.prog) w f ⟨#[58]⟩ (by show f.size + 1 ≤ _; omega)
  have e1 := cut_left f I
  have e2 := cut_right f I
  have hlt : decide ((f.size : Int) + 1 + (I.size : Int) < (f.size : Int) + 1) = false := by simp; omega
  go_wp2_with fail
  go_ret
  exact ⟨rfl, hbw2⟩

set_option maxHeartbeats 1000000 in
theorem agree_same (f I g : ByteArray) (n : Int) (w : World) (hf : f.size ≤ 140737488351232) (hI : I.size ≤ 21)
    (H : Hid (∀ W, Below w.heap.size w W → Calls Ybad.prog 8 #[.int .i64 n] W fun e w' => e = .returned (.string I) ∧ Below W.heap.size W w')) :
    Calls Ybad.prog 4 #[.string f, .int .i64 n, .string g, .bool true] w fun e w' => e = .returned (.bool true) ∧ Below w.heap.size w w' := by
  go_enter Ybad.func4, Ybad.ntmps4
  go_wp2_with fail
  refine (cited_eq f I n _ hI ?hh).mono ?_
  case hh => exact fun W hW => H.out W (((Below.refl _ _).alloc (Nat.le_refl _) _).trans (hW.mono (by simp)))
  rintro e w1 ⟨rfl, hb1⟩
  have hbw : Below w.heap.size w w1 := ((Below.refl _ _).alloc (Nat.le_refl _) _).trans (hb1.mono (by simp))
  have q0 : w1.cell? ⟨w.heap.size, 0, none⟩ = some (.string f) := by rw [hb1.cell (p := ⟨w.heap.size, 0, none⟩) (by simp)]; simp
  have q1 : w1.cell? ⟨w.heap.size, 1, none⟩ = some (.int .i64 n) := by rw [hb1.cell (p := ⟨w.heap.size, 1, none⟩) (by simp)]; simp
  clear hb1
  go_wp2_with fail
  refine (string_any f I n _ hf hI ?hh).mono ?_
  case hh => exact fun W hW => H.out W (hbw.trans (hW.mono hbw.size))
  rintro e w2 ⟨rfl, hb2⟩
  have hbw2 : Below w.heap.size w w2 := hbw.trans (hb2.mono hbw.size)
  clear q0 q1 hb2
  have a1 := fun (w : World) => run_string_add_sum (P := Ybad.prog) w f ⟨#[58]⟩ (by show f.size + 1 ≤ _; omega)
  have e1 := cut_left f I
  have e2 := cut_right f I
  have hlt : decide ((f.size : Int) + 1 + (I.size : Int) < (f.size : Int) + 1) = false := by simp; omega
  go_wp2_with fail
  go_ret
  exact ⟨rfl, hbw2⟩
end Go.Proofs.YbulkftcDoor
