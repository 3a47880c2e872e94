/-
  'Rows.LawS0326ARoundTripSaid': piece() reads back what Append wrote. The frame: the seat's shell (proof-skeleton.mjs); the walk is typed here, over YbulkfsoRound's 'core'.
-/
import Derived.Test.YbulkfsoRows
import Derived.WalkKit
import Derived.ProofKit
import Derived.OpenShut
import Derived.ShutString
import Derived.ChangeOld
import Derived.Below
import Derived.Test.YbulkfsoRound
namespace Go.Proofs.Ybulkfso.lawS0326ARoundTrip
open Go.ChangeShapes Go.WideShapes Go.ChangeAt Go.RowKit
open Go.ChangeMaps (open_string shut_string)
set_option linter.unusedVariables false

theorem own : ownKnob Yba.prog.godebug = none := by kernel_rfl
theorem laidOut : laidOutB Yba.prog = true := by kernel_rfl

/-- WHAT THE WALK IS TOLD OF A SLICE OF INTEGERS THAT CAME IN: it is nil; or it leads to a row of 'cap' cells, the numbers 'zs' (the first 'len' are its elements, the rest its spare room), each fitting its kind. -/
def IsRow (k : IntKind) (w : World) (a : Option Addr) (len cap : Nat) (zs : List Int) : Prop :=
  (a = none ∧ len = 0 ∧ cap = 0 ∧ zs = []) ∨
  ∃ x, a = some x ∧ len ≤ cap ∧ cap ≤ maxLen ∧ zs.length = cap ∧ (∀ i, i < zs.length → w.cell? (x.add i) = some (.int k (zs.getD i 0))) ∧ ∀ n ∈ zs, (Lit.int k n).wf = true

/-! ### STEP 1: THE WALK: the Go text returns true, AND WRITES NOTHING THAT WAS THERE -/
set_option maxHeartbeats 400000 in
theorem walk_long (a0 a1 : Int) (a2 : Option Addr) (len2 cap2 : Nat) (w : World) (h : 4096 < len2) :
    Calls Yba.prog 4 #[.int .u32 a0, .int .u32 a1, .slice a2 len2 cap2] w fun e w' => e = .returned (.bool true) ∧ Below w.heap.size w w' := by
  have h' : (4096 : Int) < (len2 : Int) := by omega
  go_enter Yba.func4, Yba.ntmps4
  go_wp2
  go_ret
  exact ⟨rfl, Below.refl _ _⟩

theorem walk_nil (i b : Nat) (w : World) (hi : i < 4294967296) (hbb : b < 4294967296) :
    Calls Yba.prog 4 #[.int .u32 i, .int .u32 b, .slice none 0 0] w fun e w' => e = .returned (.bool true) ∧ Below w.heap.size w w' :=
  core i b 0 0 none [] w hi hbb (by omega)
    ((append_none i b w hi hbb).mono fun _ _ ⟨v', he, hown, hb⟩ => ⟨v', he, by rw [List.append_nil]; exact hown, hb⟩)
    (fun W _ c base _ _ _ => (eq_empty base none c 0 W).mono fun _ _ ⟨he, hw⟩ => ⟨he, 0, hw⟩)

theorem walk_some (i b n c : Nat) (x : Addr) (zs : List Int) (w : World) (hi : i < 4294967296) (hbb : b < 4294967296) (hn : n ≤ 4096) (hl : n ≤ zs.length)
    (hcell : ∀ j, j < zs.length → w.cell? (x.add j) = some (.int .u8 (zs.getD j 0))) :
    Calls Yba.prog 4 #[.int .u32 i, .int .u32 b, .slice (some x) n c] w fun e w' => e = .returned (.bool true) ∧ Below w.heap.size w w' := by
  have hnews : ∀ j u, ((zs.take n).map (Value.int .u8))[j]? = some u → j < n ∧ u = .int .u8 (zs.getD j 0) := by
    intro j u hj
    have hlt : j < ((zs.take n).map (Value.int .u8)).length := (List.getElem?_eq_some_iff.1 hj).1
    have hjn : j < n := by simpa [hl] using hlt
    refine ⟨hjn, ?_⟩
    have hjz : j < zs.length := by omega
    simp [hjn, hjz] at hj
    simp [hjz, hj]
  have hcs : ∀ j u, ((zs.take n).map (Value.int .u8))[j]? = some u → w.cell? (x.add j) = some u := by
    intro j u hj
    obtain ⟨hjn, rfl⟩ := hnews j u hj
    exact hcell j (by omega)
  refine core i b n c (some x) ((zs.take n).map (Value.int .u8)) w hi hbb hn
    (append_some i b n c x _ w hi hbb hn (by simp [hl]) hcs (by intro u hu; obtain ⟨_, _, rfl⟩ := List.mem_map.1 hu; rfl)) ?_
  intro W g c' base hbase hW hc
  by_cases h0 : n = 0
  · subst h0
    exact (eq_empty base (some x) c' c W).mono fun _ _ ⟨he, hw⟩ => ⟨he, 0, hw⟩
  · rw [hbase h0]
    obtain ⟨xb, xo, spot⟩ := x
    have hspot : spot = none := by simpa [Addr.add] using World.cell?_spot (hcell 0 (by omega))
    subst hspot
    refine eq_same g 13 xb xo n c' c zs W hn ?_ ?_
    · intro j hj
      exact hc j _ (by simp [hj, show j < zs.length by omega])
    · intro j hj
      have h := hcell j (by omega)
      rw [add_plain] at h
      exact (hW.cell (p := ⟨xb, xo + j, none⟩) (World.block_lt_of_cell? w _ h)).trans h

theorem walk (a0 : Int) (a1 : Int) (a2 : Option Addr) (len2 cap2 : Nat) (z2 : List Int) (w : World) (w0 : (Lit.int .u32 a0).wf = true) (w1 : (Lit.int .u32 a1).wf = true) (w2 : IsRow .u8 w a2 len2 cap2 z2) :
    Calls Yba.prog 4 #[.int .u32 a0, .int .u32 a1, .slice a2 len2 cap2] w fun e w' => e = .returned (.bool true) ∧ Below w.heap.size w w' := by
  obtain ⟨p0, q0⟩ := bounds_u32 w0
  obtain ⟨p1, q1⟩ := bounds_u32 w1
  obtain ⟨i, rfl⟩ := Int.eq_ofNat_of_zero_le p0
  obtain ⟨b, rfl⟩ := Int.eq_ofNat_of_zero_le p1
  rcases w2 with ⟨rfl, rfl, rfl, _⟩ | ⟨x, rfl, hlc, hcm, hz, hcell, _⟩
  · exact walk_nil i b w (by omega) (by omega)
  · by_cases hlen : 4096 < len2
    · exact walk_long _ _ _ _ _ w hlen
    · exact walk_some i b len2 cap2 x z2 w (by omega) (by omega) (by omega) (by omega) hcell

/-! ### THE ROW's STEP: WRITTEN OUT: LEAVE IT -/
set_option maxRecDepth 100000 in
theorem lifted (os : Os) (started : os.Started) (H : Type) (enc : TypeId × Value → H) :
    ReturnsInHanded {} Yba.checked os 4 .any (Rows.lawS0326ARoundTripSpec.pre6 enc Yba.prog Yba.f4 Rows.lawS0326ARoundTripRow.domain false) (Rows.lawS0326ARoundTripSpec.post enc Yba.prog Yba.f4 false true false false) := by
  refine returnsInHanded_of_change (C := Yba.checked) own started (by kernel_rfl) Yba.func4
    (ChangeSpec.witness6 (enc := enc) (C := Yba.checked) false ⟨#[], #[.int .u32 0, .int .u32 0, .slice none 0 0], []⟩ 8 (by kernel_rfl) (by kernel_rfl) (by kernel_rfl) (by kernel_rfl)) ?_
  intro W base args ds gs before hval0 hW hcnd _
  have hval : ∀ (j : Nat) t v, Yba.f4.params[j]? = some t → args[j]? = some v → Value.okWide Yba.prog W .any base t v := hval0
  have hW' := hW
  obtain ⟨p, q, hA0, hV, rfl, hfz, hnd⟩ := hW
  have hA : DataW.TrodAll enc Yba.prog W 0 (fun _ => true) true Yba.f4.params.toList args.toList ds p := hA0
  rw [Yba.params4] at hA hval
  obtain ⟨v0, vs0, d0, ds0, p0, q0, hargs, rfl, rfl, h0, r0⟩ := trodAll_cons hA
  obtain ⟨v1, vs1, d1, ds1, p1, q1, rfl, rfl, rfl, h1, r1⟩ := trodAll_cons r0
  obtain ⟨v2, vs2, d2, ds2, p2, q2, rfl, rfl, rfl, h2, r2⟩ := trodAll_cons r1
  obtain ⟨rfl, rfl, rfl⟩ := trodAll_nil r2
  obtain rfl : args = #[v0, v1, v2] := by cases args; simp_all
  obtain ⟨rfl, rfl⟩ := trodVars_none hV
  obtain ⟨a0, rfl, rfl, rfl, w0⟩ := open_int Yba.underlying23 (hval 0 23 v0 rfl rfl) h0
  obtain ⟨a1, rfl, rfl, rfl, w1⟩ := open_int Yba.underlying23 (hval 1 23 v1 rfl rfl) h1
  obtain ⟨a2, len2, cap2, rfl⟩ := okWide_slice Yba.underlying22 (hval 2 22 v2 rfl rfl)
  have k2 := h2
  have lt2 : ∀ x ∈ p2, x.block < W.heap.size := by obtain ⟨m, hm⟩ := k2; exact DataW.trod_lt m _ _ _ hm
  obtain ⟨z2, w2⟩ : ∃ zs, IsRow .u8 W a2 len2 cap2 zs := by
    obtain ⟨fuel, hf⟩ := h2
    rcases open_ints Yba.underlying22 Yba.underlying5 (by kernel_rfl) hf with ⟨hcs, _⟩ | ⟨x, l, c, zs, hcs, _, hl, hm, hz, _, hcell, hwz⟩
    · simp [Value.cells] at hcs
      obtain ⟨rfl, rfl, rfl⟩ := hcs
      exact ⟨[], .inl ⟨rfl, rfl, rfl, rfl⟩⟩
    · simp [Value.cells] at hcs
      obtain ⟨rfl, rfl, rfl⟩ := hcs
      exact ⟨zs, .inr ⟨_, rfl, hl, hm, by simpa using hz, hcell, hwz⟩⟩
  clear hA0 hval0
  refine (walk a0 a1 a2 len2 cap2 z2 W w0 w1 w2).mono fun e W' ⟨he, bel⟩ => ?_
  subst he
  exact ⟨_, rfl, _, _, _, [], _, [], hW', trodAll_mk1 (shut_bool Yba.underlying4 _), (trodAll_cons_mk (shut_int Yba.underlying23 w0) (trodAll_cons_mk (shut_int Yba.underlying23 w1) (trodAll_cons_mk (Below.trod laidOut (by kernel_rfl) (of_decide_eq_true (by kernel_rfl)) k2 bel lt2) trodAll_mk0))), rfl, bel.frame _, fun h => by cases h⟩

theorem over : Rows.lawS0326ARoundTripRow.holds Yba.pinned (OpenSpec.ofChange Rows.lawS0326ARoundTripSpec) :=
  OpenClaim.holds_of_wide 4 Yba.f4 rfl rfl rfl rfl rfl rfl rfl ⟨rfl, rfl, rfl, rfl, rfl⟩ rfl rfl rfl rfl rfl (by kernel_rfl) Yba.func4 (by kernel_rfl)
    (of_decide_eq_true (by kernel_rfl)) (by unfold Func.isWrapper; first | (rw [if_pos (by decide +kernel)]; kernel_rfl) | (rw [if_neg (by decide +kernel)]; exact ⟨rfl, rfl⟩))
    (fun os started H enc _ => lifted os started H enc)

/-- ████ THE STATEMENT ████ -/
theorem proved : Rows.LawS0326ARoundTripSaid := over
end Go.Proofs.Ybulkfso.lawS0326ARoundTrip

namespace Go.Proofs.Ybulkfso
theorem lawS0326ARoundTrip_proved : Rows.LawS0326ARoundTripSaid := lawS0326ARoundTrip.proved
end Go.Proofs.Ybulkfso
