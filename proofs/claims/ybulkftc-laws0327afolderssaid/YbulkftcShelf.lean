/-
  The contracts of path/filepath.IsAbs at this dump, in plain words (written by the shelf tools lay-shelf and lay-plain for this program).
-/
import Derived.Shelf.Path.FileSmall
import Derived.Test.YbulkftcProg
namespace Go.Proofs
open Go.Shelf
def Yba.laysPa52_ren : Go.Shelf.Ren := ⟨fun | 52 => 9 | 58 => 10 | n => n, fun | 9 => 9 | 4 => 4 | 3 => 3 | n => n, fun | n => n⟩
theorem Yba.laysPa52 : Go.Proofs.Lays.p52 Yba.prog Yba.laysPa52_ren := {
  mixed := by kernel_rfl
  f52 := Yba.func9.trans (congrArg some (by kernel_rfl))
  f58 := Yba.func10.trans (congrArg some (by kernel_rfl))
  t3 := Yba.underlying3
  a3 := Yba.isAgg3
  z3 := Yba.sizeOf3
  v3 := Yba.zeroValue3
  t4 := Yba.underlying4
  a4 := Yba.isAgg4
  z4 := Yba.sizeOf4
  v4 := Yba.zeroValue4
  t9 := Yba.underlying9
  a9 := Yba.isAgg9
  z9 := Yba.sizeOf9
  v9 := Yba.zeroValue9 }
open Go.RowKit Go.Lib in
/-- internal/filepathlite.IsAbs (linux): IT RETURNS 'Pa.isAbs path', as path.IsAbs does; the world is as it was. (LAID: no walk: one application.) -/
theorem Yba.filepathlite_IsAbs (s : ByteArray) (w : World) :
    Calls Yba.prog 9 #[.string s] w fun e w' => e = .returned (.bool (Pa.isAbs s.data.toList)) ∧ w' = w := Any.filepathlite_IsAbs Yba.laysPa52 s w
def Yba.laysPa35_ren : Go.Shelf.Ren := ⟨fun | 35 => 7 | 52 => 9 | 58 => 10 | n => n, fun | 9 => 9 | 4 => 4 | 3 => 3 | n => n, fun | n => n⟩
theorem Yba.laysPa35 : Go.Proofs.Lays.p35 Yba.prog Yba.laysPa35_ren := {
  mixed := by kernel_rfl
  f35 := Yba.func7.trans (congrArg some (by kernel_rfl))
  f52 := Yba.func9.trans (congrArg some (by kernel_rfl))
  f58 := Yba.func10.trans (congrArg some (by kernel_rfl))
  t3 := Yba.underlying3
  a3 := Yba.isAgg3
  z3 := Yba.sizeOf3
  v3 := Yba.zeroValue3
  t4 := Yba.underlying4
  a4 := Yba.isAgg4
  z4 := Yba.sizeOf4
  v4 := Yba.zeroValue4
  t9 := Yba.underlying9
  a9 := Yba.isAgg9
  z9 := Yba.sizeOf9
  v9 := Yba.zeroValue9 }
open Go.RowKit Go.Lib in
/-- path/filepath.IsAbs (linux): "IsAbs reports whether the path is absolute.": IT RETURNS 'Pa.isAbs path'; the world is as it was. (LAID: no walk: one application.) -/
theorem Yba.filepath_IsAbs (s : ByteArray) (w : World) :
    Calls Yba.prog 7 #[.string s] w fun e w' => e = .returned (.bool (Pa.isAbs s.data.toList)) ∧ w' = w := Any.filepath_IsAbs Yba.laysPa35 s w
end Go.Proofs
