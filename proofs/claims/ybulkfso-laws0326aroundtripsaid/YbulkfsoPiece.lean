/-
  The contract of wire.piece: index and begin are read off the eight bytes of the head.
-/
import Derived.Test.YbulkfsoRows
import Derived.Test.YbulkfsoShelf
import Derived.WalkKit
import Derived.ProofKit
import Derived.Below
import Derived.RegionTactic
import Derived.Deep.RegionWith
import Derived.Deep.DeepMust

namespace Go.Proofs.Ybulkfso
open Go.RowKit

/-- binary.BigEndian.Uint32 of four of the eight bytes that lie at 5 .. 12 of block g. -/
theorem u32_at (g o n c : Nat) (bs : Nat → UInt8) (w W : World) (hn : 4 ≤ n) (h5 : 5 ≤ o) (h13 : o + 4 ≤ 13) (hc : ∀ j, 5 ≤ j → j < 13 → w.cell? ⟨g, j, none⟩ = some (.int .u8 (bs j).toNat)) (hb : Below w.heap.size w W) :
    Calls Yba.prog 11 #[.agg #[], .slice (some ⟨g, o, none⟩) n c] W fun e w' => e = .returned (.int .u32 (Lib.beNat [bs o, bs (o + 1), bs (o + 2), bs (o + 3)])) ∧ Below W.heap.size W w' := by
  have hW : ∀ j, 5 ≤ j → j < 13 → W.cell? ⟨g, j, none⟩ = some (.int .u8 (bs j).toNat) := fun j a b =>
    (hb.cell (p := ⟨g, j, none⟩) (World.block_lt_of_cell? w _ (hc j a b))).trans (hc j a b)
  exact Yba.binary_BE_Uint32 g o n c _ _ _ _ W hn (hW o (by omega) (by omega)) (hW (o + 1) (by omega) (by omega)) (hW (o + 2) (by omega) (by omega)) (hW (o + 3) (by omega) (by omega))

theorem bcell {W w1 : World} (hb : Below W.heap.size W w1) : (∀ b o, b < W.heap.size → w1.cell? ⟨b, o, none⟩ = W.cell? ⟨b, o, none⟩) ∧ (∀ b o, b < W.heap.size → w1.frozen? ⟨b, o, none⟩ = W.frozen? ⟨b, o, none⟩) :=
  ⟨fun b o h => hb.cell (p := ⟨b, o, none⟩) h, fun b o h => hb.frozen (p := ⟨b, o, none⟩) h⟩

set_option maxHeartbeats 1000000 in
theorem piece_any (g c : Nat) (bs : Nat → UInt8) (bk : Option Addr) (bl bc : Nat) (w : World) (hc4 : 8 ≤ c) (hc : ∀ j, 5 ≤ j → j < 13 → w.cell? ⟨g, j, none⟩ = some (.int .u8 (bs j).toNat)) :
    Calls Yba.prog 12 #[.slice (some ⟨g, 5, none⟩) 8 c, .slice bk bl bc] w fun e w' => e = .returned (.agg #[.int .u32 (Lib.beNat [bs 5, bs 6, bs 7, bs 8]), .int .u32 (Lib.beNat [bs 9, bs 10, bs 11, bs 12]), .slice bk bl bc]) ∧ Below w.heap.size w w' := by
  have H : Hid (∀ (o n c : Nat) (W : World), 4 ≤ n → 5 ≤ o → o + 4 ≤ 13 → Below w.heap.size w W → Calls Yba.prog 11 #[.agg #[], .slice (some ⟨g, o, none⟩) n c] W fun e w' => e = .returned (.int .u32 (Lib.beNat [bs o, bs (o + 1), bs (o + 2), bs (o + 3)])) ∧ Below W.heap.size W w') :=
    fun (o n c : Nat) (W : World) (hn : 4 ≤ n) (h5 : 5 ≤ o) (h13 : o + 4 ≤ 13) (hb : Below w.heap.size w W) => u32_at g o n c bs w W hn h5 h13 hc hb
  clear hc
  go_enter Yba.func12, Yba.ntmps12
  go_wp2
  go_region_with (go_at_call 11; go_must (refine (H.out _ _ _ _ (by omega) (by omega) (by omega) ?_).mono ?_; (first | exact ((Below.refl _ _).alloc (Nat.le_refl _) _).drew | exact (((Below.refl _ _).alloc (Nat.le_refl _) _).drew).trans (hb1.mono (by simp))); rintro e w1 ⟨rfl, hb1⟩; obtain ⟨hc1, hf1⟩ := bcell hb1; have hz1 : w.heap.size < w1.heap.size := by (have := hb1.size; (try simp at this); omega)))
  all_goals
    have y : ∀ j, w1.cell? ⟨w.heap.size, j, none⟩ = (w.alloc (.cells #[.int .u32 0, .int .u32 0, .slice none 0 0] 25)).cell? ⟨w.heap.size, j, none⟩ := fun j => by simp [*]
    have y0 := y 0
    have y1 := y 1
    have y2 := y 2
    simp at y0 y1 y2
    have B1 : Below w.heap.size w w1 := by
      rename_i w0 hb0 hc0 hf0 hz0
      exact ((((Below.refl _ _).alloc (Nat.le_refl _) _).drew).trans (hb0.mono (by simp))).trans (hb1.mono (by omega))
    clear y
    go_wp2
    refine bodyPost_ret (v := .agg #[.int .u32 (Lib.beNat [bs 5, bs 6, bs 7, bs 8]), .int .u32 (Lib.beNat [bs 9, bs 10, bs 11, bs 12]), .slice bk bl bc]) (by simp [results, Yba.results12, go_sem, y0, y1, y2]) rfl ⟨rfl, ?_⟩
    exact ((B1.setCell (by simp) _).setCell (by simp) _).setCell (by simp) _
end Go.Proofs.Ybulkfso
