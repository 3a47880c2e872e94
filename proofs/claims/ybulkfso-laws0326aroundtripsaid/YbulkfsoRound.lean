/-
  The law's own walk, over the contracts of its callees ('core').
-/
import Derived.Test.YbulkfsoAppend
import Derived.Test.YbulkfsoEq
import Derived.Test.YbulkfsoPiece
import Derived.Deep.DeepCutAuto
import Derived.Lib.EndianMore
namespace Go.Proofs.Ybulkfso
open Go.RowKit

def headBytes (i b n : Nat) : List UInt8 := Lib.beBytes 4 (1 + (8 + n)) ++ [7] ++ Lib.beBytes 4 i ++ Lib.beBytes 4 b
theorem headCells_eq (i b n : Nat) : headCells i b n = Lib.byteCells (headBytes i b n) := by
  simp [headCells, headBytes, Lib.byteCells]
theorem headBytes_length (i b n : Nat) : (headBytes i b n).length = 13 := by
  simp [headBytes, Lib.beBytes_length]
def hb (i b n j : Nat) : UInt8 := (headBytes i b n).getD j 0
theorem four {l : List UInt8} (h : l.length = 4) : ∃ x0 x1 x2 x3, l = [x0, x1, x2, x3] := by
  match l, h with
  | [x0, x1, x2, x3], _ => exact ⟨x0, x1, x2, x3, rfl⟩
theorem hb_nat (i b n : Nat) (hi : i < 4294967296) (hbb : b < 4294967296) (hn : n ≤ 4096) :
    Lib.beNat [hb i b n 0, hb i b n 1, hb i b n 2, hb i b n 3] = 9 + n ∧ hb i b n 4 = 7 ∧ Lib.beNat [hb i b n 5, hb i b n 6, hb i b n 7, hb i b n 8] = i ∧ Lib.beNat [hb i b n 9, hb i b n 10, hb i b n 11, hb i b n 12] = b := by
  have e0 := Lib.beNat_beBytes 4 (1 + (8 + n)) (by omega)
  have e1 := Lib.beNat_beBytes 4 i (by omega)
  have e2 := Lib.beNat_beBytes 4 b (by omega)
  obtain ⟨x0, x1, x2, x3, hx⟩ := four (Lib.beBytes_length 4 (1 + (8 + n)))
  obtain ⟨y0, y1, y2, y3, hy⟩ := four (Lib.beBytes_length 4 i)
  obtain ⟨z0, z1, z2, z3, hz⟩ := four (Lib.beBytes_length 4 b)
  rw [hx] at e0
  rw [hy] at e1
  rw [hz] at e2
  have hl : headBytes i b n = [x0, x1, x2, x3, 7, y0, y1, y2, y3, z0, z1, z2, z3] := by simp [headBytes, hx, hy, hz]
  simp only [hb, hl]
  refine ⟨?_, rfl, e1, e2⟩
  show Lib.beNat [x0, x1, x2, x3] = 9 + n
  omega

/-- What 'ownsRow' says of the slice that Append hands back. -/
theorem out_open {w : World} {B i b n : Nat} {news : List Value} {v : Value} (h : w.ownsRow B 5 1 v (13 + n) (headCells i b n ++ news)) :
    ∃ g cap, v = .slice (some ⟨g, 0, none⟩) (13 + n) cap ∧ B ≤ g ∧ g < w.heap.size ∧ 13 + n ≤ cap ∧ cap ≤ maxLen ∧ (∀ j, j < 13 → w.cell? ⟨g, j, none⟩ = some (.int .u8 (hb i b n j).toNat)) ∧ (∀ j u, news[j]? = some u → w.cell? ⟨g, 13 + j, none⟩ = some u) := by
  have hlt := h.lt
  have hk := fun g (hg : v.ownBlock = some g) => h.cells hg
  rcases h.2 with ⟨_, h0⟩ | ⟨g, cap, cur, rfl, hg, hh, hc1, hc2, _⟩
  · omega
  · have hk' := hk g rfl
    obtain ⟨l1, l2⟩ := hlt g rfl
    refine ⟨g, cap, rfl, hg, l2, hc1, hc2, ?_, ?_⟩
    · intro j hj
      have := hk' j (.int .u8 (hb i b n j).toNat) (by
        rw [headCells_eq, List.getElem?_append_left (by simp [Lib.byteCells, headBytes_length]; exact hj)]
        simp [Lib.byteCells, hb, headBytes_length, hj])
      simpa [Addr.add_lit] using this
    · intro j u hj
      have := hk' (13 + j) u (by
        rw [headCells_eq, List.getElem?_append_right (by simp [Lib.byteCells, headBytes_length])]
        simpa [Lib.byteCells, headBytes_length] using hj)
      simpa [Addr.add_lit] using this

theorem u32_0 (g n c : Nat) (bs : Nat → UInt8) (W : World) (hn : 4 ≤ n) (hc : ∀ j, j < 13 → W.cell? ⟨g, j, none⟩ = some (.int .u8 (bs j).toNat)) :
    Calls Yba.prog 11 #[.agg #[], .slice (some ⟨g, 0, none⟩) n c] W fun e w' => e = .returned (.int .u32 (Lib.beNat [bs 0, bs 1, bs 2, bs 3])) ∧ Below W.heap.size W w' :=
  Yba.binary_BE_Uint32 g 0 n c _ _ _ _ W hn (hc 0 (by omega)) (hc 1 (by omega)) (hc 2 (by omega)) (hc 3 (by omega))

set_option maxHeartbeats 2000000 in
theorem core (i b n c2 : Nat) (a2 : Option Addr) (news : List Value) (w : World) (hi : i < 4294967296) (hbb : b < 4294967296) (hn : n ≤ 4096)
    (HA : Hid (Calls Yba.prog 8 #[.agg #[.int .u32 i, .int .u32 b, .slice a2 n c2], .slice none 0 0] w fun e w' => ∃ v', e = .returned v' ∧ w'.ownsRow (w.heap.size + 1) 5 1 v' (13 + n) (headCells i b n ++ news) ∧ Below w.heap.size w w'))
    (HE : Hid (∀ (W : World) (g c : Nat) (base : Option Addr), (n ≠ 0 → base = some (⟨g, 13, none⟩ : Addr)) → Below w.heap.size w W → (∀ j u, news[j]? = some u → W.cell? ⟨g, 13 + j, none⟩ = some u) → Calls Yba.prog 10 #[.slice base n c, .slice a2 n c2] W fun e w' => e = .returned (.bool true) ∧ ∃ k, w' = W.drewN k)) :
    Calls Yba.prog 4 #[.int .u32 i, .int .u32 b, .slice a2 n c2] w fun e w' => e = .returned (.bool true) ∧ Below w.heap.size w w' := by
  have hnat := hb_nat i b n hi hbb hn
  have HN : Hid (Lib.beNat [hb i b n 0, hb i b n 1, hb i b n 2, hb i b n 3] = 9 + n ∧ hb i b n 4 = 7 ∧ Lib.beNat [hb i b n 5, hb i b n 6, hb i b n 7, hb i b n 8] = i ∧ Lib.beNat [hb i b n 9, hb i b n 10, hb i b n 11, hb i b n 12] = b) := hnat
  clear hnat
  go_enter Yba.func4, Yba.ntmps4
  go_wp2_with fail
  refine HA.out.mono ?_
  rintro e w1 ⟨v1, rfl, hown, hb1⟩
  obtain ⟨g, cap, hv, hg, hgl, hcap, hcm, hcell, hnews⟩ := out_open hown
  rw [hv]
  clear hv hown HA
  have h63 : cap ≤ 9223372036854775807 := by unfold maxLen at hcm; exact hcm
  have c4 : w1.cell? ⟨g, 4, none⟩ = some (.int .u8 7) := by have := hcell 4 (by omega); rw [HN.out.2.1] at this; exact this
  have HC : Hid (∀ j, j < 13 → w1.cell? ⟨g, j, none⟩ = some (.int .u8 (hb i b n j).toNat)) := hcell
  have HNW : Hid (∀ j u, news[j]? = some u → w1.cell? ⟨g, 13 + j, none⟩ = some u) := hnews
  clear hcell hnews hcm
  go_wp2_with fail
  refine (u32_0 g _ _ (hb i b n) w1 (by omega) HC.out).mono ?_
  rintro e w2 ⟨rfl, hb2⟩
  rw [HN.out.1]
  have d4 : w2.cell? ⟨g, 4, none⟩ = some (.int .u8 7) := (hb2.cell (p := ⟨g, 4, none⟩) hgl).trans c4
  have HC2 : Hid (∀ j, 5 ≤ j → j < 13 → w2.cell? ⟨g, j, none⟩ = some (.int .u8 (hb i b n j).toNat)) := fun j _ hj => (hb2.cell (p := ⟨g, j, none⟩) hgl).trans (HC.out j hj)
  have HNW2 : Hid (∀ j u, news[j]? = some u → w2.cell? ⟨g, 13 + j, none⟩ = some u) := fun j u hj => (hb2.cell (p := ⟨g, 13 + j, none⟩) hgl).trans (HNW.out j u hj)
  have hgl2 : g < w2.heap.size := Nat.lt_of_lt_of_le hgl hb2.size
  have hbw : Below w.heap.size w w2 := hb1.trans (hb2.mono hb1.size)
  clear c4 HC HNW hb1 hb2 hgl
  go_wp2_with fail
  have HP : Hid (∀ (bk : Option Addr) (bl bc : Nat) (W : World), Below w2.heap.size w2 W → Calls Yba.prog 12 #[.slice (some ⟨g, 5, none⟩) 8 (cap - 5), .slice bk bl bc] W fun e w' => e = .returned (.agg #[.int .u32 i, .int .u32 b, .slice bk bl bc]) ∧ Below W.heap.size W w') := by
    intro bk bl bc W hW
    have hh := piece_any g (cap - 5) (hb i b n) bk bl bc W (by omega) (fun j h5 h13 => (hW.cell (p := ⟨g, j, none⟩) hgl2).trans (HC2.out j h5 h13))
    rw [HN.out.2.2.1, HN.out.2.2.2] at hh
    exact hh
  have i13 : (13 : Int) ≤ 13 + (n : Int) := by omega
  have hc5 : ¬ cap = 5 := by omega
  have icap : (13 : Int) ≤ (cap : Int) := by omega
  by_cases hc13 : cap = 13
  · clear hc5
    subst hc13
    have HZ : Hid (n = 0) := show n = 0 by omega
    go_cut [8] (fun s8 wx => ∃ q base, s8 = .pointer (some ⟨q, 0, none⟩) ∧ (n ≠ 0 → base = some (⟨g, 13, none⟩ : Addr)) ∧ wx.cell? ⟨q, 0, none⟩ = some (.int .u32 i) ∧ wx.cell? ⟨q, 1, none⟩ = some (.int .u32 b) ∧ wx.cell? ⟨q, 2, none⟩ = some (.slice base n (13 - 13)) ∧ Below w2.heap.size w2 wx)
    case first =>
      go_region_with (go_at_call 12; go_must (refine (HP.out _ _ _ _ ?_).mono ?_; (first | exact (Below.refl _ _).drew | exact ((Below.refl _ _).alloc (Nat.le_refl _) _).drew); rintro e w3 ⟨rfl, hb3⟩; obtain ⟨hc3, hf3⟩ := bcell hb3))
      all_goals
        go_wp2_with fail
        go_meet
        refine ⟨_, some ⟨g, 0, none⟩, rfl, fun h => absurd HZ.out h, by go_simp, by go_simp, by have hz := HZ.out; subst hz; go_simp, ?_⟩
        first
          | exact ((Below.refl _ _).drew.trans hb3).alloc hb3.size _
          | exact (((((Below.refl _ _).alloc (Nat.le_refl _) _).drew.trans (hb3.mono (by simp))).setCell (by simp) _).setCell (by simp) _).setCell (by simp) _
    case rest =>
      obtain ⟨q, base, rfl, hbase, k0, k1, k2, hbx⟩ := hcut
      have HE' : Hid (Calls Yba.prog 10 #[.slice base n (13 - 13), .slice a2 n c2] wc fun e w' => e = .returned (.bool true) ∧ ∃ k, w' = wc.drewN k) := HE.out wc g (13 - 13) base hbase (hbw.trans (hbx.mono hbw.size)) (fun j u hj => (hbx.cell (p := ⟨g, 13 + j, none⟩) hgl2).trans (HNW2.out j u hj))
      clear hbase HE HP HNW2 HC2
      go_wp2_with fail
      refine (HE'.out : Calls Yba.prog 10 _ _ _).mono ?_
      rintro e w5 ⟨rfl, k, rfl⟩
      go_wp2_with fail
      go_ret
      refine ⟨rfl, ?_⟩
      have hfin : Below w.heap.size w wc := hbw.trans (hbx.mono hbw.size)
      exact ⟨hfin.os, hfin.tape, hfin.output, hfin.size, hfin.block⟩
  · skip
    go_cut [8] (fun s8 wx => ∃ q base, s8 = .pointer (some ⟨q, 0, none⟩) ∧ (n ≠ 0 → base = some (⟨g, 13, none⟩ : Addr)) ∧ wx.cell? ⟨q, 0, none⟩ = some (.int .u32 i) ∧ wx.cell? ⟨q, 1, none⟩ = some (.int .u32 b) ∧ wx.cell? ⟨q, 2, none⟩ = some (.slice base n (cap - 13)) ∧ Below w2.heap.size w2 wx)
    case first =>
      go_region_with (go_at_call 12; go_must (refine (HP.out _ _ _ _ ?_).mono ?_; (first | exact (Below.refl _ _).drew | exact ((Below.refl _ _).alloc (Nat.le_refl _) _).drew); rintro e w3 ⟨rfl, hb3⟩; obtain ⟨hc3, hf3⟩ := bcell hb3))
      all_goals
        go_wp2_with fail
        go_meet
        refine ⟨_, some ⟨g, 13, none⟩, rfl, fun _ => rfl, by go_simp, by go_simp, by go_simp, ?_⟩
        first
          | exact ((Below.refl _ _).drew.trans hb3).alloc hb3.size _
          | exact (((((Below.refl _ _).alloc (Nat.le_refl _) _).drew.trans (hb3.mono (by simp))).setCell (by simp) _).setCell (by simp) _).setCell (by simp) _
    case rest =>
      obtain ⟨q, base, rfl, hbase, k0, k1, k2, hbx⟩ := hcut
      have HE' : Hid (Calls Yba.prog 10 #[.slice base n (cap - 13), .slice a2 n c2] wc fun e w' => e = .returned (.bool true) ∧ ∃ k, w' = wc.drewN k) := HE.out wc g (cap - 13) base hbase (hbw.trans (hbx.mono hbw.size)) (fun j u hj => (hbx.cell (p := ⟨g, 13 + j, none⟩) hgl2).trans (HNW2.out j u hj))
      clear hbase HE HP HNW2 HC2
      go_wp2_with fail
      refine (HE'.out : Calls Yba.prog 10 _ _ _).mono ?_
      rintro e w5 ⟨rfl, k, rfl⟩
      go_wp2_with fail
      go_ret
      refine ⟨rfl, ?_⟩
      have hfin : Below w.heap.size w wc := hbw.trans (hbx.mono hbw.size)
      exact ⟨hfin.os, hfin.tape, hfin.output, hfin.size, hfin.block⟩

end Go.Proofs.Ybulkfso
