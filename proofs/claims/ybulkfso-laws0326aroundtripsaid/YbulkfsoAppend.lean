/-
  Contracts of wire.appendHeader and (wire.Piece).Append onto nothing: the slice that comes back owns its row: the header's thirteen bytes, then the block's.
-/
import Derived.Test.YbulkfsoRows
import Derived.Test.YbulkfsoShelf
import Derived.WalkKit
import Derived.ProofKit
import Derived.Below
import Derived.OwnWalk
import Derived.Laws.AppendOwnNone
import Derived.Lib.Endian
namespace Go.Proofs.Ybulkfso
open Go.RowKit

theorem info5 : (Yba.prog.info? 5).map (fun i => (i.zero, i.size, i.bytes)) = some (some (.int .u8 0), 1, 1) := by kernel_rfl

set_option maxHeartbeats 1000000 in
theorem header_any (B m : Nat) (n : Nat) (id : Int) (sv : Value) (xs : List Value) (w : World) (hown : w.ownsRow B 5 1 sv m xs) (hB : B ≤ w.heap.size) (hm : m + 5 ≤ 10000) (hn : n ≤ 10000) :
    Calls Yba.prog 17 #[sv, .int .u8 id, .int .i64 n] w fun e w' => ∃ v', e = .returned v' ∧ w'.ownsRow B 5 1 v' (m + 5) (xs ++ Lib.byteCells (Lib.beBytes 4 (1 + n)) ++ [.int .u8 id]) ∧ Below B w w' := by
  obtain ⟨i0, hi, hz0, hz1, hz2⟩ := info_parts info5
  have HC := fun (W : World) (hW : W.ownsRow B 5 1 sv m xs) (hb : B ≤ W.heap.size) => Yba.binary_BE_AppendUint32 B m (1 + n) (by omega) sv xs W hW hb (by omega)
  have e1 : ((1 + n : Nat) : Int) = 1 + (n : Int) := by omega
  rw [e1] at HC
  clear e1
  go_enter Yba.func17, Yba.ntmps17
  go_wp2_with fail
  refine (HC _ hown hB).mono ?_
  rintro e w1 ⟨v1, rfl, hown1, hb1⟩
  have hz := hb1.size
  clear HC
  go_wp2_with (at_builtin; refine wpList_append_own _ rfl _ _ 22 rfl B 5 i0 (.int .u8 0) 1 1 Yba.underlying22 hi hz0 hz1 hz2 rfl (by decide) _ _ _ rfl (hown1.alloc _) _ 1 1 [.int .u8 id] rfl rfl ?c1 ?c2 ?c3 ?c4 ?c5 ?_)
  case c1 =>
    intro j u hj
    match j, hj with
    | 0, hj => simp at hj; subst hj; simp [Addr.add]
  case c2 => intro u hu; simp at hu; subst hu; rfl
  case c3 => unfold maxLen; omega
  case c4 => omega
  case c5 => simp; omega
  intro v' w2 hown' hgrow _
  go_wp2
  go_ret
  exact ⟨v', rfl, by rw [List.append_assoc]; exact hown', (hb1.alloc (by omega) _).grown hgrow (by simp; omega) (fun k hk => (hown1.lt k hk).1)⟩

/-- The cells that Append lays: the length, the id, the index, the begin. -/
def headCells (i b n : Nat) : List Value := Lib.byteCells (Lib.beBytes 4 (1 + (8 + n))) ++ [.int .u8 7] ++ Lib.byteCells (Lib.beBytes 4 i) ++ Lib.byteCells (Lib.beBytes 4 b)

set_option maxHeartbeats 1000000 in
theorem append_some (i b n c : Nat) (a : Addr) (news : List Value) (w : World) (hi : i < 4294967296) (hb : b < 4294967296) (hn : n ≤ 4096) (hl : news.length = n) (hc : ∀ j u, news[j]? = some u → w.cell? (a.add j) = some u) (h1 : ∀ u ∈ news, u.oneCell' = true) :
    Calls Yba.prog 8 #[.agg #[.int .u32 i, .int .u32 b, .slice (some a) n c], .slice none 0 0] w fun e w' => ∃ v', e = .returned v' ∧ w'.ownsRow (w.heap.size + 1) 5 1 v' (13 + n) (headCells i b n ++ news) ∧ Below w.heap.size w w' := by
  obtain ⟨i0, hi0, hz0, hz1, hz2⟩ := info_parts info5
  go_enter Yba.func8, Yba.ntmps8
  go_wp2_with fail
  refine (header_any (w.heap.size + 1) 0 (8 + n) 7 _ [] _ (World.ownsRow_nil _ _ _ _) (by simp) (by omega) (by omega)).mono ?_
  rintro e w1 ⟨v1, rfl, hown1, hb1⟩
  have q0 : w1.cell? ⟨w.heap.size, 0, none⟩ = some (.int .u32 i) := by rw [hb1.cell (p := ⟨w.heap.size, 0, none⟩) (by simp)]; simp
  have q1 : w1.cell? ⟨w.heap.size, 1, none⟩ = some (.int .u32 b) := by rw [hb1.cell (p := ⟨w.heap.size, 1, none⟩) (by simp)]; simp
  have q2 : w1.cell? ⟨w.heap.size, 2, none⟩ = some (.slice (some a) n c) := by rw [hb1.cell (p := ⟨w.heap.size, 2, none⟩) (by simp)]; simp
  have z1 := hb1.size
  have z1' : w.heap.size + 1 ≤ w1.heap.size := by simpa using z1
  clear z1
  go_wp2_with fail
  refine (Yba.binary_BE_AppendUint32 (w.heap.size + 1) 5 i hi v1 _ w1 hown1 z1' (by omega)).mono ?_
  rintro e w2 ⟨v2, rfl, hown2, hb2⟩
  have r1 : w2.cell? ⟨w.heap.size, 1, none⟩ = some (.int .u32 b) := by rw [hb2.cell (p := ⟨w.heap.size, 1, none⟩) (by simp)]; exact q1
  have r2 : w2.cell? ⟨w.heap.size, 2, none⟩ = some (.slice (some a) n c) := by rw [hb2.cell (p := ⟨w.heap.size, 2, none⟩) (by simp)]; exact q2
  have z2' : w.heap.size + 1 ≤ w2.heap.size := Nat.le_trans z1' hb2.size
  clear q0 q1 q2
  go_wp2_with fail
  refine (Yba.binary_BE_AppendUint32 (w.heap.size + 1) 9 b hb v2 _ w2 hown2 z2' (by omega)).mono ?_
  rintro e w3 ⟨v3, rfl, hown3, hb3⟩
  have s2 : w3.cell? ⟨w.heap.size, 2, none⟩ = some (.slice (some a) n c) := by rw [hb3.cell (p := ⟨w.heap.size, 2, none⟩) (by simp)]; exact r2
  have z3' : w.heap.size + 1 ≤ w3.heap.size := Nat.le_trans z2' hb3.size
  clear r1 r2
  have hbb : Below w.heap.size w w3 := (((Below.refl _ w).alloc (Nat.le_refl _) _).trans (hb1.mono (by omega))).trans ((hb2.mono (by omega)).trans (hb3.mono (by omega)))
  go_wp2_with (at_builtin; refine wpList_append_own _ rfl _ _ 22 rfl (w.heap.size + 1) 5 i0 (.int .u8 0) 1 1 Yba.underlying22 hi0 hz0 hz1 hz2 rfl (by decide) _ _ _ rfl hown3 _ n c news rfl ?c0 ?c1 ?c2 ?c3 ?c4 ?c5 ?_)
  case c0 => rw [hl, Nat.mul_one]
  case c1 => intro j u hj; exact (hbb.cell (p := a.add j) (World.block_lt_of_cell? w _ (hc j u hj))).trans (hc j u hj)
  case c2 => exact h1
  case c3 => unfold maxLen; omega
  case c4 => omega
  case c5 => exact z3'
  intro v' w4 hown' hgrow _
  go_wp2
  go_ret
  refine ⟨v', rfl, ?_, hbb.grown hgrow (by omega) (fun k hk => by have := (hown3.lt k hk).1; omega)⟩
  have e1 : 13 + n = 0 + 5 + 4 + 4 + n := by omega
  rw [e1, headCells]
  simpa using hown'

set_option maxHeartbeats 1000000 in
theorem append_none (i b : Nat) (w : World) (hi : i < 4294967296) (hb : b < 4294967296) :
    Calls Yba.prog 8 #[.agg #[.int .u32 i, .int .u32 b, .slice none 0 0], .slice none 0 0] w fun e w' => ∃ v', e = .returned v' ∧ w'.ownsRow (w.heap.size + 1) 5 1 v' 13 (headCells i b 0) ∧ Below w.heap.size w w' := by
  obtain ⟨i0, hi0, hz0, hz1, hz2⟩ := info_parts info5
  go_enter Yba.func8, Yba.ntmps8
  go_wp2_with fail
  refine (header_any (w.heap.size + 1) 0 8 7 _ [] _ (World.ownsRow_nil _ _ _ _) (by simp) (by omega) (by omega)).mono ?_
  rintro e w1 ⟨v1, rfl, hown1, hb1⟩
  have q0 : w1.cell? ⟨w.heap.size, 0, none⟩ = some (.int .u32 i) := by rw [hb1.cell (p := ⟨w.heap.size, 0, none⟩) (by simp)]; simp
  have q1 : w1.cell? ⟨w.heap.size, 1, none⟩ = some (.int .u32 b) := by rw [hb1.cell (p := ⟨w.heap.size, 1, none⟩) (by simp)]; simp
  have q2 : w1.cell? ⟨w.heap.size, 2, none⟩ = some (.slice none 0 0) := by rw [hb1.cell (p := ⟨w.heap.size, 2, none⟩) (by simp)]; simp
  have z1 := hb1.size
  have z1' : w.heap.size + 1 ≤ w1.heap.size := by simpa using z1
  clear z1
  go_wp2_with fail
  refine (Yba.binary_BE_AppendUint32 (w.heap.size + 1) 5 i hi v1 _ w1 hown1 z1' (by omega)).mono ?_
  rintro e w2 ⟨v2, rfl, hown2, hb2⟩
  have r1 : w2.cell? ⟨w.heap.size, 1, none⟩ = some (.int .u32 b) := by rw [hb2.cell (p := ⟨w.heap.size, 1, none⟩) (by simp)]; exact q1
  have r2 : w2.cell? ⟨w.heap.size, 2, none⟩ = some (.slice none 0 0) := by rw [hb2.cell (p := ⟨w.heap.size, 2, none⟩) (by simp)]; exact q2
  have z2' : w.heap.size + 1 ≤ w2.heap.size := Nat.le_trans z1' hb2.size
  clear q0 q1 q2
  go_wp2_with fail
  refine (Yba.binary_BE_AppendUint32 (w.heap.size + 1) 9 b hb v2 _ w2 hown2 z2' (by omega)).mono ?_
  rintro e w3 ⟨v3, rfl, hown3, hb3⟩
  have s2 : w3.cell? ⟨w.heap.size, 2, none⟩ = some (.slice none 0 0) := by rw [hb3.cell (p := ⟨w.heap.size, 2, none⟩) (by simp)]; exact r2
  have z3' : w.heap.size + 1 ≤ w3.heap.size := Nat.le_trans z2' hb3.size
  clear r1 r2
  have hbb : Below w.heap.size w w3 := (((Below.refl _ w).alloc (Nat.le_refl _) _).trans (hb1.mono (by omega))).trans ((hb2.mono (by omega)).trans (hb3.mono (by omega)))
  go_wp2_with (at_builtin; refine wpList_append_own_none rfl _ _ 22 rfl (w.heap.size + 1) 5 i0 1 Yba.underlying22 hi0 _ _ _ rfl hown3 rfl ?_)
  go_wp2
  go_ret
  refine ⟨v3, rfl, ?_, hbb⟩
  rw [headCells]
  simpa using hown3
end Go.Proofs.Ybulkfso
