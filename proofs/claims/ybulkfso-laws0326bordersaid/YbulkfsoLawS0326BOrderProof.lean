/-
  'Rows.LawS0326BOrderSaid': 'before' is a strict total order on ranks. The frame: the seat's shell (proof-skeleton.mjs); the plain law and the walk are typed here.
-/
import Derived.Test.YbulkfsoRows
import Derived.WalkKit
import Derived.ProofKit
import Derived.OpenShut
import Derived.ShutString
import Derived.Laws.StructEq
import Derived.Test.YbulkfsoBefore
namespace Go.Proofs.Ybulkfso.lawS0326BOrder
open Go.ChangeShapes Go.WideShapes Go.ChangeAt Go.RowKit
open Go.ChangeMaps (open_string shut_string)
set_option linter.unusedVariables false      -- a walk need not use every 'w<i>' (that an integer argument fits its kind)

theorem own : ownKnob Yba.prog.godebug = none := by kernel_rfl

/-! ### THE PLAIN LAW: 'bef' is a strict total order -/
theorem bef_irrefl (t : Bool) (h : Int) : bef t h t h = false := by simp [bef]
theorem bef_tri (t1 : Bool) (h1 : Int) (t2 : Bool) (h2 : Int) (h : ¬ (t1 = t2 ∧ h1 = h2)) : (bef t1 h1 t2 h2 = true ∧ bef t2 h2 t1 h1 = false) ∨ (bef t1 h1 t2 h2 = false ∧ bef t2 h2 t1 h1 = true) := by
  cases t1 <;> cases t2 <;> simp [bef] at h ⊢ <;> omega
theorem bef_trans (t1 : Bool) (h1 : Int) (t2 : Bool) (h2 : Int) (t3 : Bool) (h3 : Int) (h : bef t1 h1 t2 h2 = true) (h' : bef t2 h2 t3 h3 = true) : bef t1 h1 t3 h3 = true := by
  cases t1 <;> cases t2 <;> cases t3 <;> simp [bef] at h h' ⊢ <;> omega

/-! ### STEP 1: THE WALKS, one a way: the Go text returns true -/
set_option maxHeartbeats 400000 in
theorem walk_eq (a0 : Bool) (a1 : Int) (a4 : Bool) (a5 : Int) (w : World) (haa : bef a0 a1 a0 a1 = false) :
    Calls Yba.prog 6 #[.bool a0, .int .i64 a1, .bool a0, .int .i64 a1, .bool a4, .int .i64 a5] w fun e w' => e = .returned (.bool true) ∧ Grown w w' := by
  go_enter Yba.func6, Yba.ntmps6
  go_wp2_with (go_at_call 14; refine (before_any _ _ _ _ _).mono ?_; rintro e w' ⟨rfl, rfl⟩)
  go_ret
  exact ⟨rfl, by repeat (first | refine Grown.alloc ?_ _ _ | exact Grown.refl _)⟩

set_option maxHeartbeats 400000 in
theorem walk_same_lt_no (a0 : Bool) (a1 : Int) (a3 : Int) (a4 : Bool) (a5 : Int) (w : World) (ne : ¬ a1 = a3) (haa : bef a0 a1 a0 a1 = false) (hab : bef a0 a1 a0 a3 = true) (hba : bef a0 a3 a0 a1 = false) (hbc : bef a0 a3 a4 a5 = false) :
    Calls Yba.prog 6 #[.bool a0, .int .i64 a1, .bool a0, .int .i64 a3, .bool a4, .int .i64 a5] w fun e w' => e = .returned (.bool true) ∧ Grown w w' := by
  go_enter Yba.func6, Yba.ntmps6
  go_wp2_with (go_at_call 14; refine (before_any _ _ _ _ _).mono ?_; rintro e w' ⟨rfl, rfl⟩)
  go_ret
  exact ⟨rfl, by repeat (first | refine Grown.alloc ?_ _ _ | exact Grown.refl _)⟩

set_option maxHeartbeats 400000 in
theorem walk_same_lt_yes (a0 : Bool) (a1 : Int) (a3 : Int) (a4 : Bool) (a5 : Int) (w : World) (ne : ¬ a1 = a3) (haa : bef a0 a1 a0 a1 = false) (hab : bef a0 a1 a0 a3 = true) (hba : bef a0 a3 a0 a1 = false) (hbc : bef a0 a3 a4 a5 = true) (hac : bef a0 a1 a4 a5 = true) :
    Calls Yba.prog 6 #[.bool a0, .int .i64 a1, .bool a0, .int .i64 a3, .bool a4, .int .i64 a5] w fun e w' => e = .returned (.bool true) ∧ Grown w w' := by
  go_enter Yba.func6, Yba.ntmps6
  go_wp2_with (go_at_call 14; refine (before_any _ _ _ _ _).mono ?_; rintro e w' ⟨rfl, rfl⟩)
  go_ret
  exact ⟨rfl, by repeat (first | refine Grown.alloc ?_ _ _ | exact Grown.refl _)⟩

set_option maxHeartbeats 400000 in
theorem walk_same_gt (a0 : Bool) (a1 : Int) (a3 : Int) (a4 : Bool) (a5 : Int) (w : World) (ne : ¬ a1 = a3) (haa : bef a0 a1 a0 a1 = false) (hab : bef a0 a1 a0 a3 = false) (hba : bef a0 a3 a0 a1 = true) :
    Calls Yba.prog 6 #[.bool a0, .int .i64 a1, .bool a0, .int .i64 a3, .bool a4, .int .i64 a5] w fun e w' => e = .returned (.bool true) ∧ Grown w w' := by
  go_enter Yba.func6, Yba.ntmps6
  go_wp2_with (go_at_call 14; refine (before_any _ _ _ _ _).mono ?_; rintro e w' ⟨rfl, rfl⟩)
  go_ret
  exact ⟨rfl, by repeat (first | refine Grown.alloc ?_ _ _ | exact Grown.refl _)⟩

set_option maxHeartbeats 400000 in
theorem walk_lt_no (a0 : Bool) (a1 : Int) (a2 : Bool) (a3 : Int) (a4 : Bool) (a5 : Int) (w : World) (ne : ¬ a0 = a2) (haa : bef a0 a1 a0 a1 = false) (hab : bef a0 a1 a2 a3 = true) (hba : bef a2 a3 a0 a1 = false) (hbc : bef a2 a3 a4 a5 = false) :
    Calls Yba.prog 6 #[.bool a0, .int .i64 a1, .bool a2, .int .i64 a3, .bool a4, .int .i64 a5] w fun e w' => e = .returned (.bool true) ∧ Grown w w' := by
  go_enter Yba.func6, Yba.ntmps6
  go_wp2_with (go_at_call 14; refine (before_any _ _ _ _ _).mono ?_; rintro e w' ⟨rfl, rfl⟩)
  go_ret
  exact ⟨rfl, by repeat (first | refine Grown.alloc ?_ _ _ | exact Grown.refl _)⟩

set_option maxHeartbeats 400000 in
theorem walk_lt_yes (a0 : Bool) (a1 : Int) (a2 : Bool) (a3 : Int) (a4 : Bool) (a5 : Int) (w : World) (ne : ¬ a0 = a2) (haa : bef a0 a1 a0 a1 = false) (hab : bef a0 a1 a2 a3 = true) (hba : bef a2 a3 a0 a1 = false) (hbc : bef a2 a3 a4 a5 = true) (hac : bef a0 a1 a4 a5 = true) :
    Calls Yba.prog 6 #[.bool a0, .int .i64 a1, .bool a2, .int .i64 a3, .bool a4, .int .i64 a5] w fun e w' => e = .returned (.bool true) ∧ Grown w w' := by
  go_enter Yba.func6, Yba.ntmps6
  go_wp2_with (go_at_call 14; refine (before_any _ _ _ _ _).mono ?_; rintro e w' ⟨rfl, rfl⟩)
  go_ret
  exact ⟨rfl, by repeat (first | refine Grown.alloc ?_ _ _ | exact Grown.refl _)⟩

set_option maxHeartbeats 400000 in
theorem walk_gt (a0 : Bool) (a1 : Int) (a2 : Bool) (a3 : Int) (a4 : Bool) (a5 : Int) (w : World) (ne : ¬ a0 = a2) (haa : bef a0 a1 a0 a1 = false) (hab : bef a0 a1 a2 a3 = false) (hba : bef a2 a3 a0 a1 = true) :
    Calls Yba.prog 6 #[.bool a0, .int .i64 a1, .bool a2, .int .i64 a3, .bool a4, .int .i64 a5] w fun e w' => e = .returned (.bool true) ∧ Grown w w' := by
  go_enter Yba.func6, Yba.ntmps6
  go_wp2_with (go_at_call 14; refine (before_any _ _ _ _ _).mono ?_; rintro e w' ⟨rfl, rfl⟩)
  go_ret
  exact ⟨rfl, by repeat (first | refine Grown.alloc ?_ _ _ | exact Grown.refl _)⟩

theorem walk (a0 : Bool) (a1 : Int) (a2 : Bool) (a3 : Int) (a4 : Bool) (a5 : Int) (w1 : (Lit.int .i64 a1).wf = true) (w3 : (Lit.int .i64 a3).wf = true) (w5 : (Lit.int .i64 a5).wf = true) (w : World) :
    Calls Yba.prog 6 #[.bool a0, .int .i64 a1, .bool a2, .int .i64 a3, .bool a4, .int .i64 a5] w fun e w' => e = .returned (.bool true) ∧ Grown w w' := by
  have haa := bef_irrefl a0 a1
  by_cases heq : a0 = a2 ∧ a1 = a3
  · obtain ⟨rfl, rfl⟩ := heq
    exact walk_eq _ _ _ _ w haa
  · have htri := bef_tri a0 a1 a2 a3 heq
    have htr := bef_trans a0 a1 a2 a3 a4 a5
    by_cases e1 : a0 = a2
    · have e2 : ¬ a1 = a3 := fun h => heq ⟨e1, h⟩
      subst e1
      rcases htri with ⟨hab, hba⟩ | ⟨hab, hba⟩
      · cases hbc : bef a0 a3 a4 a5
        · exact walk_same_lt_no _ _ _ _ _ w e2 haa hab hba hbc
        · exact walk_same_lt_yes _ _ _ _ _ w e2 haa hab hba hbc (htr hab hbc)
      · exact walk_same_gt _ _ _ _ _ w e2 haa hab hba
    · rcases htri with ⟨hab, hba⟩ | ⟨hab, hba⟩
      · cases hbc : bef a2 a3 a4 a5
        · exact walk_lt_no _ _ _ _ _ _ w e1 haa hab hba hbc
        · exact walk_lt_yes _ _ _ _ _ _ w e1 haa hab hba hbc (htr hab hbc)
      · exact walk_gt _ _ _ _ _ _ w e1 haa hab hba

/-! ### THE ROW's STEP: WRITTEN OUT: LEAVE IT -/
set_option maxRecDepth 100000 in
theorem lifted (os : Os) (started : os.Started) (H : Type) (enc : TypeId × Value → H) :
    ReturnsInHanded {} Yba.checked os 6 .any (Rows.lawS0326BOrderSpec.pre6 enc Yba.prog Yba.f6 Rows.lawS0326BOrderRow.domain false) (Rows.lawS0326BOrderSpec.post enc Yba.prog Yba.f6 false true false false) := by
  refine returnsInHanded_of_change (C := Yba.checked) own started (by kernel_rfl) Yba.func6
    (ChangeSpec.witness6 (enc := enc) (C := Yba.checked) false ⟨#[], #[.bool false, .int .i64 0, .bool false, .int .i64 0, .bool false, .int .i64 0], []⟩ 8 (by kernel_rfl) (by kernel_rfl) (by kernel_rfl) (by kernel_rfl)) ?_
  intro W base args ds gs before hval0 hW hcnd _
  have hval : ∀ (j : Nat) t v, Yba.f6.params[j]? = some t → args[j]? = some v → Value.okWide Yba.prog W .any base t v := hval0
  have hW' := hW
  obtain ⟨p, q, hA0, hV, rfl, hfz, hnd⟩ := hW
  have hA : DataW.TrodAll enc Yba.prog W 0 (fun _ => true) true Yba.f6.params.toList args.toList ds p := hA0
  rw [Yba.params6] at hA hval
  obtain ⟨v0, vs0, d0, ds0, p0, q0, hargs, rfl, rfl, h0, r0⟩ := trodAll_cons hA
  obtain ⟨v1, vs1, d1, ds1, p1, q1, rfl, rfl, rfl, h1, r1⟩ := trodAll_cons r0
  obtain ⟨v2, vs2, d2, ds2, p2, q2, rfl, rfl, rfl, h2, r2⟩ := trodAll_cons r1
  obtain ⟨v3, vs3, d3, ds3, p3, q3, rfl, rfl, rfl, h3, r3⟩ := trodAll_cons r2
  obtain ⟨v4, vs4, d4, ds4, p4, q4, rfl, rfl, rfl, h4, r4⟩ := trodAll_cons r3
  obtain ⟨v5, vs5, d5, ds5, p5, q5, rfl, rfl, rfl, h5, r5⟩ := trodAll_cons r4
  obtain ⟨rfl, rfl, rfl⟩ := trodAll_nil r5
  obtain rfl : args = #[v0, v1, v2, v3, v4, v5] := by cases args; simp_all
  obtain ⟨rfl, rfl⟩ := trodVars_none hV
  obtain ⟨a0, rfl, rfl, rfl⟩ := open_bool Yba.underlying4 (hval 0 4 v0 rfl rfl) h0
  obtain ⟨a1, rfl, rfl, rfl, w1⟩ := open_int Yba.underlying3 (hval 1 3 v1 rfl rfl) h1
  obtain ⟨a2, rfl, rfl, rfl⟩ := open_bool Yba.underlying4 (hval 2 4 v2 rfl rfl) h2
  obtain ⟨a3, rfl, rfl, rfl, w3⟩ := open_int Yba.underlying3 (hval 3 3 v3 rfl rfl) h3
  obtain ⟨a4, rfl, rfl, rfl⟩ := open_bool Yba.underlying4 (hval 4 4 v4 rfl rfl) h4
  obtain ⟨a5, rfl, rfl, rfl, w5⟩ := open_int Yba.underlying3 (hval 5 3 v5 rfl rfl) h5
  clear hA0 hval0
  simp only [List.append_nil] at hW'
  refine (walk a0 a1 a2 a3 a4 a5 w1 w3 w5 W).mono fun e W' ⟨he, hg⟩ => ?_
  subst he
  exact ⟨_, rfl, post_of_same (pa := []) (pv := []) hW' (fun _ _ _ => (trodAll_cons_mk (shut_bool Yba.underlying4 _) trodAll_mk0)) (fun sp _ => (trodAll_cons_mk (shut_bool Yba.underlying4 _) (trodAll_cons_mk (shut_int Yba.underlying3 w1) (trodAll_cons_mk (shut_bool Yba.underlying4 _) (trodAll_cons_mk (shut_int Yba.underlying3 w3) (trodAll_cons_mk (shut_bool Yba.underlying4 _) (trodAll_cons_mk (shut_int Yba.underlying3 w5) trodAll_mk0))))))) (fun _ _ => rfl) rfl
    (hg.frame _) hg.2.1 (ok_one (by kernel_rfl) rfl (okWide_bool_mk Yba.underlying4 _))⟩

theorem over : Rows.lawS0326BOrderRow.holds Yba.pinned (OpenSpec.ofChange Rows.lawS0326BOrderSpec) :=
  OpenClaim.holds_of_wide 6 Yba.f6 rfl rfl rfl rfl rfl rfl rfl ⟨rfl, rfl, rfl, rfl, rfl⟩ rfl rfl rfl rfl rfl (by kernel_rfl) Yba.func6 (by kernel_rfl)
    (of_decide_eq_true (by kernel_rfl)) (by unfold Func.isWrapper; first | (rw [if_pos (by decide +kernel)]; kernel_rfl) | (rw [if_neg (by decide +kernel)]; exact ⟨rfl, rfl⟩))
    (fun os started H enc _ => lifted os started H enc)

/-- ████ THE STATEMENT ████ -/
theorem proved : Rows.LawS0326BOrderSaid :=
  over
end Go.Proofs.Ybulkfso.lawS0326BOrder

namespace Go.Proofs.Ybulkfso
theorem lawS0326BOrder_proved : Rows.LawS0326BOrderSaid := lawS0326BOrder.proved
end Go.Proofs.Ybulkfso
