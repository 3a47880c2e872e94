/-
  'Rows.LawS0327AFoldersSaid'. The frame after the guide's own template and the seat b0326a's shell (a slice that came in is handed back by 'Below.trod'); the walk is typed in the imported texts.
-/
import Derived.Test.YbulkftcRows
import Derived.WalkKit
import Derived.ProofKit
import Derived.OpenShut
import Derived.ShutString
import Derived.ChangeOld
import Derived.Below
import Derived.SizedLaws
import Derived.SliceStrings
import Derived.Test.YbulkftcFold
namespace Go.Proofs.Ybulkftc.lawS0327AFolders
open Go.ChangeShapes Go.WideShapes Go.ChangeAt Go.RowKit
open Go.ChangeMaps (open_string shut_string)
set_option linter.unusedVariables false

theorem own : ownKnob Yba.prog.godebug = none := by kernel_rfl
theorem laidOut : laidOutB Yba.prog = true := by kernel_rfl

/-- What the walk is told of a slice of strings that came in: it is nil; or it leads to a row of cells that hold the strings 'ss' (the first 'len' are its elements). -/
def IsStrs (w : World) (a : Option Addr) (len cap : Nat) (ss : List ByteArray) : Prop :=
  (a = none ∧ len = 0 ∧ cap = 0 ∧ ss = []) ∨
  ∃ x, a = some x ∧ len ≤ cap ∧ cap ≤ maxLen ∧ ss.length = cap ∧ (∀ i, i < ss.length → w.cell? (x.add i) = some (.string (ss.getD i ByteArray.empty)))

/-! ### THE WALK -/
theorem q1_of (w : World) (f : ByteArray) (d : Value) : (w.alloc (.cells (rdCells f d) 37)).cell? ⟨w.heap.size, 1, none⟩ = some d := World.cell?_alloc_at _ _ _ _ rfl
theorem q8_of (w : World) (f : ByteArray) (d : Value) : (w.alloc (.cells (rdCells f d) 37)).cell? ⟨w.heap.size, 8, none⟩ = some (.string f) := World.cell?_alloc_at _ _ _ _ rfl

theorem walk (s f : ByteArray) (a : Option Addr) (len cap : Nat) (ss : List ByteArray) (w : World) (hs : s.size ≤ 140737488351232) (h : IsStrs w a len cap ss) :
    Calls Yba.prog 3 #[.string s, .string f, .slice a len cap] w fun e w' => e = .returned (.bool true) ∧ Below w.heap.size w w' := by
  by_cases hl : 1024 < len
  · exact fold_long s f a len cap w hl
  have hl' : len ≤ 1024 := by omega
  cases hA : Lib.Pa.isAbs s.data.toList with
  | true => exact fold_abs s f a len cap w hl' hA
  | false =>
    have hno := isAbs_false hA
    have hsz : ∀ d : Value, (w.alloc (.cells (rdCells f d) 37)).heap.size = w.heap.size + 1 := fun d => by simp
    rcases h with ⟨rfl, rfl, rfl, _⟩ | ⟨x, rfl, hlc, hcm, hz, hcell⟩
    · refine fold_rel s f none 0 0 [] w hl' hno (searched_rel _ s _ _ hA ?_) ?_
      · exact (folders_nil w.heap.size f _ (q1_of w f _) (q8_of w f _)).mono fun _ _ ⟨v', he, ho, hb⟩ => ⟨v', he, by rw [hsz] at ho; exact ho, by rw [hsz] at hb; exact hb⟩
      · intro g c W h0 _ _
        exact (eq_empty g c f none 0 W h0).mono fun _ _ ⟨he, hw⟩ => ⟨he, 0, hw⟩
    · by_cases h0 : len = 0
      · subst h0
        refine fold_rel s f (some x) 0 cap [] w hl' hno (searched_rel _ s _ _ hA ?_) ?_
        · exact (folders_empty w.heap.size f x cap _ (q1_of w f _) (q8_of w f _)).mono fun _ _ ⟨v', he, ho, hb⟩ => ⟨v', he, by rw [hsz] at ho; exact ho, by rw [hsz] at hb; exact hb⟩
        · intro g c W h0 _ _
          exact (eq_empty g c f (some x) cap W h0).mono fun _ _ ⟨he, hw⟩ => ⟨he, 0, hw⟩
      · have hlen : len ≤ ss.length := by omega
        have hnews : ∀ j u, ((ss.take len).map Value.string)[j]? = some u → j < len ∧ u = .string (ss.getD j ByteArray.empty) := by
          intro j u hj
          have hlt : j < ((ss.take len).map Value.string).length := (List.getElem?_eq_some_iff.1 hj).1
          have hjn : j < len := by simpa [hlen] using hlt
          refine ⟨hjn, ?_⟩
          have hjz : j < ss.length := by omega
          simp [hjn, hjz] at hj
          simp [hjz, hj]
        refine fold_rel s f (some x) len cap ((ss.take len).map Value.string) w hl' hno (searched_rel _ s _ _ hA ?_) ?_
        · refine (folders_some w.heap.size f x len cap ((ss.take len).map Value.string) _ (q1_of w f _) (q8_of w f _) hl' (by omega) (by simp [hlen]) ?_ (by intro u hu; obtain ⟨_, _, rfl⟩ := List.mem_map.1 hu; rfl)).mono fun _ _ ⟨v', he, ho, hb⟩ => ⟨v', he, by rw [hsz] at ho; exact ho, by rw [hsz] at hb; exact hb⟩
          intro j u hj
          obtain ⟨hjn, rfl⟩ := hnews j u hj
          have hc := hcell j (by omega)
          exact (World.cell?_alloc_lt _ _ _ (World.block_lt_of_cell? w _ hc)).trans hc
        · intro g c W hg hc hW
          obtain ⟨xb, xo, spot⟩ := x
          have hspot : spot = none := by simpa [Addr.add] using World.cell?_spot (hcell 0 (by omega))
          subst hspot
          refine eq_same g c f xb xo len cap ss W hl' hg ?_ ?_
          · intro j hj
            exact hc j _ (by simp [hj, show j < ss.length by omega])
          · intro j hj
            have h := hcell j (by omega)
            rw [add_plain] at h
            exact (hW.cell (p := ⟨xb, xo + j, none⟩) (World.block_lt_of_cell? w _ h)).trans h


/-! ### THE ROW's STEP -/
set_option maxRecDepth 100000 in
theorem lifted (os : Os) (started : os.Started) (H : Type) (enc : TypeId × Value → H) :
    ReturnsInHanded {} Yba.checked os 3 .any (Rows.lawS0327AFoldersSpec.pre6 enc Yba.prog Yba.f3 Rows.lawS0327AFoldersRow.domain false) (Rows.lawS0327AFoldersSpec.post enc Yba.prog Yba.f3 false true false false) := by
  refine returnsInHanded_of_change_sized (C := Yba.checked) own started (by kernel_rfl) Yba.func3
    (ChangeSpec.witness6 (enc := enc) (C := Yba.checked) false ⟨#[], #[.string ByteArray.empty, .string ByteArray.empty, .slice none 0 0], []⟩ 8 (by kernel_rfl) (by kernel_rfl) (by kernel_rfl) (by kernel_rfl)) ?_
  intro W base args ds gs before hval0 hW hcnd hsz0 _
  have hval : ∀ (j : Nat) t v, Yba.f3.params[j]? = some t → args[j]? = some v → Value.okWide Yba.prog W .any base t v := hval0
  have hsz : (DataW.weightsEach Yba.prog (Yba.f3.params.toList ++ Rows.lawS0327AFoldersSpec.plain.varTypes Yba.prog) (ds ++ gs)).all (· ≤ reachBytes) = true := hsz0
  have hW' := hW
  obtain ⟨p, q, hA0, hV, rfl, hfz, hnd⟩ := hW
  have hA : DataW.TrodAll enc Yba.prog W 0 (fun _ => true) true Yba.f3.params.toList args.toList ds p := hA0
  rw [Yba.params3] at hA hval hsz
  obtain ⟨v0, vs0, d0, ds0, p0, q0, hargs, rfl, rfl, h0, r0⟩ := trodAll_cons hA
  obtain ⟨v1, vs1, d1, ds1, p1, q1, rfl, rfl, rfl, h1, r1⟩ := trodAll_cons r0
  obtain ⟨v2, vs2, d2, ds2, p2, q2, rfl, rfl, rfl, h2, r2⟩ := trodAll_cons r1
  obtain ⟨rfl, rfl, rfl⟩ := trodAll_nil r2
  obtain rfl : args = #[v0, v1, v2] := by cases args; simp_all
  obtain ⟨rfl, rfl⟩ := trodVars_none hV
  obtain ⟨s0, rfl, rfl, rfl, hs0⟩ := open_string Yba.underlying9 (hval 0 9 v0 rfl rfl) h0
  obtain ⟨s1, rfl, rfl, rfl, hs1⟩ := open_string Yba.underlying9 (hval 1 9 v1 rfl rfl) h1
  obtain ⟨a2, len2, cap2, rfl⟩ := okWide_slice Yba.underlying22 (hval 2 22 v2 rfl rfl)
  have k2 := h2
  have lt2 : ∀ x ∈ p2, x.block < W.heap.size := by obtain ⟨m, hm⟩ := k2; exact DataW.trod_lt m _ _ _ hm
  obtain ⟨ss, w2⟩ : ∃ ss, IsStrs W a2 len2 cap2 ss := by
    obtain ⟨fuel, hf⟩ := h2
    rcases open_strings Yba.underlying22 Yba.underlying9 (by kernel_rfl) hf with ⟨hcs, _⟩ | ⟨x, l, c, ss, hcs, _, hl, hm, hz, _, hcell, _⟩
    · simp [Value.cells] at hcs
      obtain ⟨rfl, rfl, rfl⟩ := hcs
      exact ⟨[], .inl ⟨rfl, rfl, rfl, rfl⟩⟩
    · simp [Value.cells] at hcs
      obtain ⟨rfl, rfl, rfl⟩ := hcs
      exact ⟨ss, .inr ⟨_, rfl, hl, hm, by simpa using hz, hcell⟩⟩
  have hr0 : s0.size ≤ 140737488351232 := by
    have h := sized_string hsz (j := 0) (t := 9) rfl rfl
    rw [Array.length_toList] at h
    exact h
  clear hA0 hval0 hsz0
  refine (walk s0 s1 a2 len2 cap2 ss W hr0 w2).mono fun e W' ⟨he, bel⟩ => ?_
  subst he
  exact ⟨_, rfl, _, _, _, [], _, [], hW', trodAll_mk1 (shut_bool Yba.underlying4 _), (trodAll_cons_mk (shut_string Yba.underlying9 hs0) (trodAll_cons_mk (shut_string Yba.underlying9 hs1) (trodAll_cons_mk (Below.trod laidOut (by kernel_rfl) (of_decide_eq_true (by kernel_rfl)) k2 bel lt2) trodAll_mk0))), rfl, bel.frame _, fun h => by cases h⟩

theorem over : Rows.lawS0327AFoldersRow.holds Yba.pinned (OpenSpec.ofChange Rows.lawS0327AFoldersSpec) :=
  OpenClaim.holds_of_wide 3 Yba.f3 rfl rfl rfl rfl rfl rfl rfl ⟨rfl, rfl, rfl, rfl, rfl⟩ rfl rfl rfl rfl rfl (by kernel_rfl) Yba.func3 (by kernel_rfl)
    (of_decide_eq_true (by kernel_rfl)) (by unfold Func.isWrapper; first | (rw [if_pos (by decide +kernel)]; kernel_rfl) | (rw [if_neg (by decide +kernel)]; exact ⟨rfl, rfl⟩))
    (fun os started H enc _ => lifted os started H enc)
end Go.Proofs.Ybulkftc.lawS0327AFolders

namespace Go.Proofs.Ybulkftc
/-- THE STATEMENT -/
theorem lawS0327AFolders_proved : Rows.LawS0327AFoldersSaid := lawS0327AFolders.over
end Go.Proofs.Ybulkftc
