/-
  'Rows.LawS0327BExactCardSaid': the row's statement over the listed tables, then the tied card (the given tie; the builder's one call). The frame after the guide's worked texts for a listed row and a tied card.
-/
import Derived.Test.YbulkftcDoorRows
import Derived.Test.YbulkftcDoorTie
import Derived.Test.YbulkftcDoorCards
import Derived.Test.YbulkftcDoorLaid
import Derived.ShutString
import Derived.SizedLaws
import Derived.SevenTiedAt
import Derived.Test.YbulkftcDoorExact
namespace Go.Proofs.YbulkftcDoor.lawS0327BExact
open Go.ChangeShapes Go.WideShapes Go.ChangeAt Go.RowKit
open Go.ChangeMaps (open_string shut_string)
set_option linter.unusedVariables false

/-! ### THE WALK: the Go text returns true, and writes nothing that was there -/
theorem walk (f : ByteArray) (n : Int) (g : ByteArray) (b : Bool) (w : World) (wn : (Lit.int .i64 n).wf = true) (hf : f.size ≤ 140737488351232) (ht : Tab w) :
    Calls Ybad.prog 3 #[.string f, .int .i64 n, .string g, .bool b] w fun e w' => e = .returned (.bool true) ∧ Below w.heap.size w w' := by
  obtain ⟨h0, h1⟩ := bounds_i64 wn
  have hI := num_size n h0 h1
  have H : Hid (∀ W, Below w.heap.size w W → Calls Ybad.prog 8 #[.int .i64 n] W fun e w' => e = .returned (.string (num n)) ∧ Below W.heap.size W w') :=
    fun W hW => itoa_any n h0 h1 W (ht.below hW)
  have HB : Hid (∀ W, Calls Ybad.prog 6 #[.int .i64 n] W fun e w' => e = .returned (.string (num n)) ∧ Below W.heap.size W w') :=
    fun W => bitoa_any n h0 h1 W
  cases b with
  | true => exact exact_same f (num n) g n w hI H HB
  | false =>
    by_cases hfg : f = g
    · subst hfg
      exact exact_eq f (num n) n w hI H HB
    · refine exact_ne f (num n) g n w hf hI ?_ H HB
      rw [beq_eq_false_iff_ne]
      intro h
      apply hfg
      rw [ByteArray.toList_eq, ByteArray.toList_eq] at h
      exact ByteArray.ext (Array.toList_inj.1 h)

set_option maxRecDepth 100000 in
theorem lifted (os : Os) (started : os.Started) (H : Type) (enc : TypeId × Value → H) :
    ReturnsInHanded {} Ybad.checked os 3 .any (fun w args => (Rows.lawS0327BExactSpec.pre enc Ybad.prog Ybad.f3 [] false w args ∧ laidMetH Ybad.prog laid3 w) ∧ sizedMet enc Ybad.prog Ybad.f3 (OpenSpec.ofChange Rows.lawS0327BExactSpec) false w args)
      (Rows.lawS0327BExactSpec.post enc Ybad.prog Ybad.f3 false true false false) := by
  refine returnsInHanded_of_change_and (C := Ybad.checked) (X := fun w _ => laidMetH Ybad.prog laid3 w) (fun _ _ _ hh h => h.of_heap hh) own started (by kernel_rfl) Ybad.func3
    (ChangeSpec.witness_shaped (enc := enc) (C := Ybad.checked) (os := os) (X := fun w _ => laidMetH Ybad.prog laid3 w) false (World.doorLaid Ybad.prog 400 os) #[.string ByteArray.empty, .int .i64 0, .string ByteArray.empty, .bool false] 8 rfl (World.shaped_of_RefB (by kernel_rfl) (by kernel_rfl)) (by kernel_rfl) (by kernel_rfl) (by kernel_rfl) (door_met os _)) ?_
  intro W base args ds gs before hval0 hW hcnd hsz0 hL _
  have hval : ∀ (j : Nat) t v, Ybad.f3.params[j]? = some t → args[j]? = some v → Value.okWide Ybad.prog W .any base t v := hval0
  have hsz : (DataW.weightsEach Ybad.prog (Ybad.f3.params.toList ++ Rows.lawS0327BExactSpec.plain.varTypes Ybad.prog) (ds ++ gs)).all (· ≤ reachBytes) = true := hsz0
  have hW' := hW
  obtain ⟨p, q, hA0, hV, rfl, hfz, hnd⟩ := hW
  have hA : DataW.TrodAll enc Ybad.prog W 0 (fun _ => true) true Ybad.f3.params.toList args.toList ds p := hA0
  rw [Ybad.params3] at hA hval hsz
  obtain ⟨v0, vs0, d0, ds0, p0, q0, hargs, rfl, rfl, h0, r0⟩ := trodAll_cons hA
  obtain ⟨v1, vs1, d1, ds1, p1, q1, rfl, rfl, rfl, h1, r1⟩ := trodAll_cons r0
  obtain ⟨v2, vs2, d2, ds2, p2, q2, rfl, rfl, rfl, h2, r2⟩ := trodAll_cons r1
  obtain ⟨v3, vs3, d3, ds3, p3, q3, rfl, rfl, rfl, h3, r3⟩ := trodAll_cons r2
  obtain ⟨rfl, rfl, rfl⟩ := trodAll_nil r3
  obtain rfl : args = #[v0, v1, v2, v3] := by cases args; simp_all
  obtain ⟨rfl, rfl⟩ := trodVars_none hV
  obtain ⟨s0, rfl, rfl, rfl, hs0⟩ := open_string Ybad.underlying9 (hval 0 9 v0 rfl rfl) h0
  obtain ⟨n, rfl, rfl, rfl, wn⟩ := open_int Ybad.underlying3 (hval 1 3 v1 rfl rfl) h1
  obtain ⟨s2, rfl, rfl, rfl, hs2⟩ := open_string Ybad.underlying9 (hval 2 9 v2 rfl rfl) h2
  obtain ⟨b, rfl, rfl, rfl⟩ := open_bool Ybad.underlying4 (hval 3 4 v3 rfl rfl) h3
  have hr0 : s0.size ≤ 140737488351232 := by
    have h := sized_string hsz (j := 0) (t := 9) rfl rfl
    rw [Array.length_toList] at h
    exact h
  clear hA0 hval0 hsz0
  refine (walk s0 n s2 b W wn hr0 (tab_of_laid hL)).mono fun e W' ⟨he, bel⟩ => ?_
  subst he
  exact ⟨_, rfl, _, _, _, [], _, [], hW', trodAll_mk1 (shut_bool Ybad.underlying4 _), (trodAll_cons_mk (shut_string Ybad.underlying9 hs0) (trodAll_cons_mk (shut_int Ybad.underlying3 wn) (trodAll_cons_mk (shut_string Ybad.underlying9 hs2) (trodAll_cons_mk (shut_bool Ybad.underlying4 _) trodAll_mk0)))), rfl, bel.frame _, fun h => by cases h⟩

theorem over : Rows.lawS0327BExactRow.holds Ybad.pinned (OpenSpec.ofChange Rows.lawS0327BExactSpec) :=
  OpenClaim.holds_of_wide 3 Ybad.f3 rfl rfl rfl rfl rfl rfl rfl ⟨rfl, rfl, rfl, rfl, rfl⟩ rfl rfl rfl rfl rfl (by kernel_rfl) Ybad.func3 (by kernel_rfl)
    (of_decide_eq_true (by kernel_rfl)) (by unfold Func.isWrapper; first | (rw [if_pos (by decide +kernel)]; kernel_rfl) | (rw [if_neg (by decide +kernel)]; exact ⟨rfl, rfl⟩))
    (fun os started H enc _ => lifted os started H enc)

theorem card : Rows.LawS0327BExactCardSaid :=
  Claim7.holds_tied_plain_at .later [] [.data, .data, .data] true Rows.lawS0327BExactCard.stood.harness false
    over (fun _ h => by cases h) (by kernel_rfl) (fun _ h => by cases h) lawS0327BExact_row_tie rfl ⟨rfl, rfl⟩ (by kernel_rfl) rfl
    (fun f fn hf hfn => by
      obtain rfl : f = 3 := Option.some.inj ((show Ybad.prog.funcNamed Rows.lawS0327BExactRow.func = some 3 by kernel_rfl).symm.trans hf) |>.symm
      obtain rfl : fn = Ybad.f3 := (Option.some.inj (Ybad.func3.symm.trans hfn)).symm
      exact ⟨by kernel_rfl, fun j t ht => by
        rw [Ybad.params3] at ht
        have hm : t ∈ [9, 3, 9, 4] := by simpa using Array.mem_of_getElem? ht
        have hall : ([9, 3, 9, 4].all fun u => !Ybad.prog.wantsStandIn u) = true := by kernel_rfl
        exact (show Ybad.prog.wantsStandIn t = false by simpa using List.all_eq_true.1 hall t hm)⟩)
    (by kernel_rfl)
end Go.Proofs.YbulkftcDoor.lawS0327BExact

namespace Go.Proofs.YbulkftcDoor
/-- THE CARD -/
theorem lawS0327BExact_card : Rows.LawS0327BExactCardSaid := lawS0327BExact.card
end Go.Proofs.YbulkftcDoor
