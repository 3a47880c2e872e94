/-
  The contracts of encoding/binary at this dump, in plain words (written by the shelf tools lay-shelf and lay-plain for this program).
-/
import Derived.Shelf.Bin.BEUint32
import Derived.Shelf.Bin.BEAppendUint32
import Derived.Shelf.Bin.ReadersZ
import Derived.Test.YbulkfsoProg
namespace Go.Proofs
open Go.Shelf
def Yba.laysBin39_ren : Go.Shelf.Ren := ⟨fun | 39 => 11 | n => n, fun | 37 => 31 | 22 => 22 | 29 => 23 | 0 => 0 | 5 => 5 | 45 => 55 | n => n, fun | n => n⟩
theorem Yba.laysBin39 : Go.Proofs.LaysBin.n39 Yba.prog Yba.laysBin39_ren := {
  mixed := by kernel_rfl
  f39 := Yba.func11.trans (congrArg some (by kernel_rfl))
  t0 := Yba.underlying0
  a0 := Yba.isAgg0
  z0 := Yba.sizeOf0
  v0 := Yba.zeroValue0
  i0 := by kernel_rfl
  t5 := Yba.underlying5
  a5 := Yba.isAgg5
  z5 := Yba.sizeOf5
  v5 := Yba.zeroValue5
  i5 := by kernel_rfl
  t22 := Yba.underlying22
  a22 := Yba.isAgg22
  z22 := Yba.sizeOf22
  v22 := Yba.zeroValue22
  i22 := by kernel_rfl
  t29 := Yba.underlying23
  a29 := Yba.isAgg23
  z29 := Yba.sizeOf23
  v29 := Yba.zeroValue23
  i29 := by kernel_rfl
  t37 := Yba.underlying31
  a37 := Yba.isAgg31
  z37 := Yba.sizeOf31
  v37 := Yba.zeroValue31
  i37 := by kernel_rfl
  t45 := Yba.underlying55
  a45 := Yba.isAgg55
  z45 := Yba.sizeOf55
  v45 := Yba.zeroValue55
  i45 := by kernel_rfl }
open Go.RowKit in
/-- binary.BigEndian.Uint32: "Uint32 returns the uint32 representation of b[0:4].": THE NUMBER THAT THE FIRST 4 BYTES SPELL, the greatest byte first ('Lib.beNat'). Of what was there nothing has turned (the receiver, an empty struct, is laid in a new block without cells; the statement's order is drawn). (LAID: no walk: one application.) -/
theorem Yba.binary_BE_Uint32 (g o n c : Nat) (b0 b1 b2 b3 : UInt8) (w : World) (hn : 4 ≤ n) (c0 : w.cell? ⟨g, o, none⟩ = some (.int .u8 b0.toNat)) (c1 : w.cell? ⟨g, o + 1, none⟩ = some (.int .u8 b1.toNat)) (c2 : w.cell? ⟨g, o + 2, none⟩ = some (.int .u8 b2.toNat)) (c3 : w.cell? ⟨g, o + 3, none⟩ = some (.int .u8 b3.toNat)) :
    Calls Yba.prog 11 #[.agg #[], .slice (some ⟨g, o, none⟩) n c] w fun e w' => e = .returned (.int .u32 (Lib.beNat [b0, b1, b2, b3])) ∧ Below w.heap.size w w' := Any.binary_BE_Uint32 Yba.laysBin39 g o n c b0 b1 b2 b3 w hn c0 c1 c2 c3
def Yba.laysBin41_ren : Go.Shelf.Ren := ⟨fun | 41 => 18 | n => n, fun | 37 => 31 | 22 => 22 | 29 => 23 | 0 => 0 | 45 => 55 | 5 => 5 | n => n, fun | n => n⟩
theorem Yba.laysBin41 : Go.Proofs.LaysBin.n41 Yba.prog Yba.laysBin41_ren := {
  mixed := by kernel_rfl
  f41 := Yba.func18.trans (congrArg some (by kernel_rfl))
  t0 := Yba.underlying0
  a0 := Yba.isAgg0
  z0 := Yba.sizeOf0
  v0 := Yba.zeroValue0
  i0 := by kernel_rfl
  t5 := Yba.underlying5
  a5 := Yba.isAgg5
  z5 := Yba.sizeOf5
  v5 := Yba.zeroValue5
  i5 := by kernel_rfl
  t22 := Yba.underlying22
  a22 := Yba.isAgg22
  z22 := Yba.sizeOf22
  v22 := Yba.zeroValue22
  i22 := by kernel_rfl
  t29 := Yba.underlying23
  a29 := Yba.isAgg23
  z29 := Yba.sizeOf23
  v29 := Yba.zeroValue23
  i29 := by kernel_rfl
  t37 := Yba.underlying31
  a37 := Yba.isAgg31
  z37 := Yba.sizeOf31
  v37 := Yba.zeroValue31
  i37 := by kernel_rfl
  t45 := Yba.underlying55
  a45 := Yba.isAgg55
  z45 := Yba.sizeOf55
  v45 := Yba.zeroValue55
  i45 := by kernel_rfl }
open Go.RowKit in
/-- binary.BigEndian.AppendUint32: "AppendUint32 appends the bytes of v to b and returns the appended slice.": WHAT COMES BACK OWNS b's CELLS AND, BEHIND THEM, v's 4 BYTES, the greatest first ('Lib.beBytes 4 v'). Below the call's own blocks nothing has turned. (LAID: no walk: one application.) -/
theorem Yba.binary_BE_AppendUint32 (B n v : Nat) (hv : v < 4294967296) (sv : Value) (xs : List Value) (w : World) (hown : w.ownsRow B 5 1 sv n xs) (hBw : B ≤ w.heap.size) (hlim : n + 4 ≤ 140737488355328) :
    Calls Yba.prog 18 #[.agg #[], sv, .int .u32 v] w fun e w' => ∃ v', e = .returned v' ∧ w'.ownsRow B 5 1 v' (n + 4) (xs ++ Lib.byteCells (Lib.beBytes 4 v)) ∧ Below B w w' := Any.binary_BE_AppendUint32 Yba.laysBin41 B n v hv sv xs w hown hBw hlim
open Go.RowKit in
/-- binary.BigEndian.Uint32, ITS PREMISES 'open_ints'' CONCLUSION TO THE LETTER: a slice at WHATEVER address a, the numbers zs that its cells hold: THE NUMBER THAT THE FIRST 4 SPELL ('Lib.beZ'). (LAID: no walk: one application.) -/
theorem Yba.binary_BE_Uint32_z (a : Addr) (n c : Nat) (zs : List Int) (w : World) (hn : 4 ≤ n) (hl : 4 ≤ zs.length) (hcell : ∀ i, i < zs.length → w.cell? (a.add i) = some (.int .u8 (zs.getD i 0))) (hw : ∀ z ∈ zs, (Lit.int .u8 z).wf = true) :
    Calls Yba.prog 11 #[.agg #[], .slice (some a) n c] w fun e w' => e = .returned (.int .u32 (Lib.beZ (zs.take 4))) ∧ Below w.heap.size w w' := Any.binary_BE_Uint32_z Yba.laysBin39 a n c zs w hn hl hcell hw
end Go.Proofs
