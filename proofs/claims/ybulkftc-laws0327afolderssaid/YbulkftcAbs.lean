/-
  Walks: (*Reading).searched at an absolute name; LawS0327AAbsolute.
-/
import Derived.Test.YbulkftcRows
import Derived.Test.YbulkftcShelf
import Derived.WalkKit
import Derived.ProofKit
import Derived.Below
import Derived.Laws.Concat
namespace Go.Proofs.Ybulkftc
open Go.RowKit

set_option maxHeartbeats 400000 in
theorem searched_abs (p : Option Addr) (s : ByteArray) (w : World) (h : Lib.Pa.isAbs s.data.toList = true) :
    Calls Yba.prog 5 #[.pointer p, .string s] w fun e w' => e = .returned (.slice (some ⟨w.heap.size, 0, none⟩) 1 1) ∧ w' = w.alloc (.cells #[.string ByteArray.empty] 9) := by
  go_enter Yba.func5, Yba.ntmps5
  go_wp2_with (go_at_call 7; refine (Yba.filepath_IsAbs _ _).mono ?_; rintro e w' ⟨rfl, rfl⟩)
  go_ret
  exact ⟨rfl, rfl⟩

theorem isAbs_slash (s : ByteArray) : Lib.Pa.isAbs (ByteArray.mk #[47] ++ s).data.toList = true := by
  simp [Lib.Pa.isAbs, ByteArray.data_append]

set_option maxHeartbeats 400000 in
theorem abs_short (s f : ByteArray) (a : Option Addr) (len cap : Nat) (w : World) (hs : s.size ≤ 140737488351232) (hl : len ≤ 1024) :
    Calls Yba.prog 4 #[.string s, .string f, .slice a len cap] w fun e w' => e = .returned (.bool true) ∧ Below w.heap.size w w' := by
  have h' : ¬ (1024 : Int) < (len : Int) := by omega
  have hadd := fun (w : World) => run_string_add_sum (P := Yba.prog) w (ByteArray.mk #[47]) s (by show 1 + s.size ≤ _; omega)
  have HA : Hid (Lib.Pa.isAbs (ByteArray.mk #[47] ++ s).data.toList = true) := isAbs_slash s
  go_enter Yba.func4, Yba.ntmps4
  go_wp2_with fail
  refine (searched_abs _ _ _ HA.out).mono ?_
  rintro e w' ⟨rfl, rfl⟩
  go_wp2_with fail
  go_ret
  exact ⟨rfl, ((Below.refl _ _).alloc (Nat.le_refl _) _).alloc (by simp) _⟩

set_option maxHeartbeats 400000 in
theorem abs_long (s f : ByteArray) (a : Option Addr) (len cap : Nat) (w : World) (hl : 1024 < len) :
    Calls Yba.prog 4 #[.string s, .string f, .slice a len cap] w fun e w' => e = .returned (.bool true) ∧ Below w.heap.size w w' := by
  have h' : (1024 : Int) < (len : Int) := by omega
  go_enter Yba.func4, Yba.ntmps4
  go_wp2
  go_ret
  exact ⟨rfl, Below.refl _ _⟩
end Go.Proofs.Ybulkftc
