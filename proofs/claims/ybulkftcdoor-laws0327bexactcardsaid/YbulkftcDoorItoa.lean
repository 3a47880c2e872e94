/-
  strconv.Itoa at this dump: the laying is written by the shelf tools lay-shelf and lay-plain for this program; behind it the contract in the words of the walks: the decimal numeral; of what was there nothing has turned.
-/
import Derived.Shelf.Strconv.Itoa3
import Derived.Test.YbulkftcDoorRows
import Derived.Below
import Derived.WalkSmall
import Derived.Lib.ItoaLen
namespace Go.Proofs
open Go.Shelf
def Ybad.laysM171_ren : Go.Shelf.Ren := ⟨fun | 171 => 8 | 243 => 9 | 246 => 10 | 283 => 11 | 284 => 12 | 285 => 13 | 286 => 14 | 129 => 16 | 317 => 15 | 318 => 17 | 319 => 18 | 320 => 19 | 337 => 20 | 338 => 21 | n => n, fun | 3 => 3 | 9 => 9 | 2 => 2 | 4 => 4 | 171 => 29 | 0 => 0 | 53 => 28 | 37 => 30 | 5 => 5 | 173 => 34 | 212 => 38 | 51 => 39 | 20 => 20 | 213 => 40 | 46 => 42 | 232 => 45 | 233 => 46 | n => n, fun | 17 => 0 | 18 => 1 | 19 => 2 | n => n⟩
theorem Ybad.laysM171 : Go.Proofs.LaysM.n171 Ybad.prog Ybad.laysM171_ren := {
  mixed := by kernel_rfl
  f129 := Ybad.func16.trans (congrArg some (by kernel_rfl))
  f171 := Ybad.func8.trans (congrArg some (by kernel_rfl))
  f243 := Ybad.func9.trans (congrArg some (by kernel_rfl))
  f246 := Ybad.func10.trans (congrArg some (by kernel_rfl))
  f283 := Ybad.func11.trans (congrArg some (by kernel_rfl))
  f284 := Ybad.func12.trans (congrArg some (by kernel_rfl))
  f285 := Ybad.func13.trans (congrArg some (by kernel_rfl))
  f286 := Ybad.func14.trans (congrArg some (by kernel_rfl))
  f317 := Ybad.func15.trans (congrArg some (by kernel_rfl))
  f318 := Ybad.func17.trans (congrArg some (by kernel_rfl))
  f319 := Ybad.func18.trans (congrArg some (by kernel_rfl))
  f320 := Ybad.func19.trans (congrArg some (by kernel_rfl))
  f337 := Ybad.func20.trans (congrArg some (by kernel_rfl))
  f338 := Ybad.func21.trans (congrArg some (by kernel_rfl))
  t0 := Ybad.underlying0
  a0 := Ybad.isAgg0
  z0 := Ybad.sizeOf0
  v0 := Ybad.zeroValue0
  t2 := Ybad.underlying2
  a2 := Ybad.isAgg2
  z2 := Ybad.sizeOf2
  v2 := Ybad.zeroValue2
  t3 := Ybad.underlying3
  a3 := Ybad.isAgg3
  z3 := Ybad.sizeOf3
  v3 := Ybad.zeroValue3
  t4 := Ybad.underlying4
  a4 := Ybad.isAgg4
  z4 := Ybad.sizeOf4
  v4 := Ybad.zeroValue4
  t5 := Ybad.underlying5
  a5 := Ybad.isAgg5
  z5 := Ybad.sizeOf5
  v5 := Ybad.zeroValue5
  t9 := Ybad.underlying9
  a9 := Ybad.isAgg9
  z9 := Ybad.sizeOf9
  v9 := Ybad.zeroValue9
  t20 := Ybad.underlying20
  a20 := Ybad.isAgg20
  z20 := Ybad.sizeOf20
  v20 := Ybad.zeroValue20
  t37 := Ybad.underlying30
  a37 := Ybad.isAgg30
  z37 := Ybad.sizeOf30
  v37 := Ybad.zeroValue30
  t46 := Ybad.underlying42
  a46 := Ybad.isAgg42
  z46 := Ybad.sizeOf42
  v46 := Ybad.zeroValue42
  t51 := Ybad.underlying39
  a51 := Ybad.isAgg39
  z51 := Ybad.sizeOf39
  v51 := Ybad.zeroValue39
  t53 := Ybad.underlying28
  a53 := Ybad.isAgg28
  z53 := Ybad.sizeOf28
  v53 := Ybad.zeroValue28
  t171 := Ybad.underlying29
  a171 := Ybad.isAgg29
  z171 := Ybad.sizeOf29
  v171 := Ybad.zeroValue29
  t173 := Ybad.underlying34
  a173 := Ybad.isAgg34
  z173 := Ybad.sizeOf34
  v173 := Ybad.zeroValue34
  t212 := Ybad.underlying38
  a212 := Ybad.isAgg38
  z212 := Ybad.sizeOf38
  v212 := Ybad.zeroValue38
  t213 := Ybad.underlying40
  a213 := Ybad.isAgg40
  z213 := Ybad.sizeOf40
  t232 := Ybad.underlying45
  a232 := Ybad.isAgg45
  z232 := Ybad.sizeOf45
  v232 := Ybad.zeroValue45
  t233 := Ybad.underlying46
  a233 := Ybad.isAgg46
  z233 := Ybad.sizeOf46
  v233 := Ybad.zeroValue46
  g17 := by kernel_rfl
  g18 := by kernel_rfl
  g19 := by kernel_rfl
  i0 := by kernel_rfl
  i2 := by kernel_rfl
  i3 := by kernel_rfl
  i4 := by kernel_rfl
  i5 := by kernel_rfl
  i9 := by kernel_rfl
  i20 := by kernel_rfl
  i37 := by kernel_rfl
  i46 := by kernel_rfl
  i51 := by kernel_rfl
  i53 := by kernel_rfl
  i171 := by kernel_rfl
  i173 := by kernel_rfl
  i212 := by kernel_rfl
  i232 := by kernel_rfl
  i233 := by kernel_rfl
  m17 := by kernel_rfl
  m18 := by kernel_rfl
  m19 := by kernel_rfl }
end Go.Proofs
namespace Go.Proofs.YbulkftcDoor
open Go.RowKit

/-- The name of the table that Itoa reads, off the row's own list. -/
def tabName : String := Rows.lawS0327BExactRow.named.headD ""
theorem tabName_global : Ybad.prog.globalNamed tabName = some 0 := by kernel_rfl

/-- In the world w the table of the powers of ten lies as the program's text lays it. -/
def Tab (w : World) : Prop := Lib.TabIs Ybad.prog w tabName .u64 Lib.pow10Tab

theorem Tab.below {w w' : World} (h : Tab w) (hb : Below w.heap.size w w') : Tab w' := by
  have hc := Lib.TabIs.cell h tabName_global 0 (by decide)
  exact var?_below hb tabName_global (World.block_lt_of_cell? w _ hc) h

theorem below_grow (w : World) (k : Nat) (os : Array Obj) : Below w.heap.size w (Sort.grow (w.drewN k) os) :=
  ⟨rfl, rfl, rfl, by simp, fun i hi => by show (w.heap ++ os)[i]? = _; rw [Array.getElem?_append_left hi]⟩

/-- i's decimal numeral. -/
def num (n : Int) : ByteArray := ⟨(Lib.itoa n).toArray⟩
theorem num_size (n : Int) (h0 : -9223372036854775808 ≤ n) (h1 : n ≤ 9223372036854775807) : (num n).size ≤ 21 := by
  have h := Lib.itoa_length_le n h0 h1
  show (Lib.itoa n).toArray.size ≤ 21
  simpa using h

theorem itoa_any (n : Int) (h0 : -9223372036854775808 ≤ n) (h1 : n ≤ 9223372036854775807) (w : World) (ht : Tab w) :
    Calls Ybad.prog 8 #[.int .i64 n] w fun e w' => e = .returned (.string (num n)) ∧ Below w.heap.size w w' :=
  (Any.strconv_Itoa Ybad.laysM171 n h0 h1 w ht).mono fun _ _ ⟨he, k, os, hw⟩ => ⟨he, hw ▸ below_grow w k os⟩
end Go.Proofs.YbulkftcDoor
