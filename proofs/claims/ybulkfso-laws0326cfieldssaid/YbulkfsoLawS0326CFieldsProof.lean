/-
  'Rows.LawS0326CFieldsSaid': what newReader lays into the Reader's fields. The frame: the seat's shell (proof-skeleton.mjs); the walks are typed here.
-/
import Derived.Test.YbulkfsoRows
import Derived.WalkKit
import Derived.ProofKit
import Derived.OpenShut
import Derived.ShutString
import Derived.Laws.StructEq
import Derived.WalkLawsBesides
import Derived.Test.YbulkfsoReader
namespace Go.Proofs.Ybulkfso.lawS0326CFields
open Go.ChangeShapes Go.WideShapes Go.ChangeAt Go.RowKit
open Go.ChangeMaps (open_string shut_string)
set_option linter.unusedVariables false      -- a walk need not use every 'w<i>' (that an integer argument fits its kind)

theorem own : ownKnob Yba.prog.godebug = none := by kernel_rfl

/-! ### STEP 1: THE WALKS, one a way: the Go text returns true -/
set_option maxHeartbeats 400000 in
theorem walk_big_odd (n : Int) (b : Bool) (w : World) (h0 : 0 ≤ n) (h1 : n ≤ 17179869184) (h : 131081 < 1 + (n + 7) / 8) (hr : ¬ n % 8 = 0) :
    Calls Yba.prog 7 #[.int .i64 n, .bool b] w fun e w' => e = .returned (.bool true) ∧ Grown w w' := by
  have k4 := neq4
  have k8 := neq8
  go_enter Yba.func7, Yba.ntmps7
  go_wp2_with (first | (go_at_call 15; refine (nr_big _ _ _ _ h0 h1 h).mono ?_; rintro e w' ⟨rfl, rfl⟩; unfold nrWorld rdCells bufioCells) | go_in)
  go_ret
  exact ⟨rfl, by repeat (first | refine Grown.alloc ?_ _ _ | exact Grown.refl _)⟩

set_option maxHeartbeats 400000 in
theorem walk_big_even (n : Int) (b : Bool) (w : World) (h0 : 0 ≤ n) (h1 : n ≤ 17179869184) (h : 131081 < 1 + (n + 7) / 8) (hr : n % 8 = 0) :
    Calls Yba.prog 7 #[.int .i64 n, .bool b] w fun e w' => e = .returned (.bool true) ∧ Grown w w' := by
  have k4 := neq4
  have k8 := neq8
  go_enter Yba.func7, Yba.ntmps7
  go_wp2_with (first | (go_at_call 15; refine (nr_big _ _ _ _ h0 h1 h).mono ?_; rintro e w' ⟨rfl, rfl⟩; unfold nrWorld rdCells bufioCells) | go_in)
  go_ret
  exact ⟨rfl, by repeat (first | refine Grown.alloc ?_ _ _ | exact Grown.refl _)⟩

set_option maxHeartbeats 400000 in
theorem walk_small_odd (n : Int) (b : Bool) (w : World) (h0 : 0 ≤ n) (h1 : n ≤ 17179869184) (h : 1 + (n + 7) / 8 ≤ 131081) (hr : ¬ n % 8 = 0) :
    Calls Yba.prog 7 #[.int .i64 n, .bool b] w fun e w' => e = .returned (.bool true) ∧ Grown w w' := by
  have k4 := neq4
  have k8 := neq8
  go_enter Yba.func7, Yba.ntmps7
  go_wp2_with (first | (go_at_call 15; refine (nr_small _ _ _ _ h0 h1 h).mono ?_; rintro e w' ⟨rfl, rfl⟩; unfold nrWorld rdCells bufioCells) | go_in)
  all_goals
    go_ret
    exact ⟨rfl, by repeat (first | refine Grown.alloc ?_ _ _ | exact Grown.refl _)⟩

set_option maxHeartbeats 400000 in
theorem walk_small_even (n : Int) (b : Bool) (w : World) (h0 : 0 ≤ n) (h1 : n ≤ 17179869184) (h : 1 + (n + 7) / 8 ≤ 131081) (hr : n % 8 = 0) :
    Calls Yba.prog 7 #[.int .i64 n, .bool b] w fun e w' => e = .returned (.bool true) ∧ Grown w w' := by
  have k4 := neq4
  have k8 := neq8
  go_enter Yba.func7, Yba.ntmps7
  go_wp2_with (first | (go_at_call 15; refine (nr_small _ _ _ _ h0 h1 h).mono ?_; rintro e w' ⟨rfl, rfl⟩; unfold nrWorld rdCells bufioCells) | go_in)
  all_goals
    go_ret
    exact ⟨rfl, by repeat (first | refine Grown.alloc ?_ _ _ | exact Grown.refl _)⟩

set_option maxHeartbeats 400000 in
theorem walk_neg (n : Int) (b : Bool) (w : World) (h : n < 0) :
    Calls Yba.prog 7 #[.int .i64 n, .bool b] w fun e w' => e = .returned (.bool true) ∧ Grown w w' := by
  go_enter Yba.func7, Yba.ntmps7
  go_wp2
  go_ret
  exact ⟨rfl, by repeat (first | refine Grown.alloc ?_ _ _ | exact Grown.refl _)⟩

set_option maxHeartbeats 400000 in
theorem walk_over (n : Int) (b : Bool) (w : World) (h : 17179869184 < n) :
    Calls Yba.prog 7 #[.int .i64 n, .bool b] w fun e w' => e = .returned (.bool true) ∧ Grown w w' := by
  go_enter Yba.func7, Yba.ntmps7
  go_wp2
  go_ret
  exact ⟨rfl, by repeat (first | refine Grown.alloc ?_ _ _ | exact Grown.refl _)⟩

theorem walk (a0 : Int) (a1 : Bool) (w0 : (Lit.int .i64 a0).wf = true) (w : World) :
    Calls Yba.prog 7 #[.int .i64 a0, .bool a1] w fun e w' => e = .returned (.bool true) ∧ Grown w w' := by
  by_cases h0 : a0 < 0
  · exact walk_neg _ _ w h0
  by_cases h1 : 17179869184 < a0
  · exact walk_over _ _ w h1
  have g0 : 0 ≤ a0 := by omega
  have g1 : a0 ≤ 17179869184 := by omega
  by_cases h : 131081 < 1 + (a0 + 7) / 8
  · by_cases hr : a0 % 8 = 0
    · exact walk_big_even _ _ w g0 g1 h hr
    · exact walk_big_odd _ _ w g0 g1 h hr
  · have h' : 1 + (a0 + 7) / 8 ≤ 131081 := by omega
    by_cases hr : a0 % 8 = 0
    · exact walk_small_even _ _ w g0 g1 h' hr
    · exact walk_small_odd _ _ w g0 g1 h' hr

/-! ### THE ROW's STEP: WRITTEN OUT: LEAVE IT -/
set_option maxRecDepth 100000 in
theorem lifted (os : Os) (started : os.Started) (H : Type) (enc : TypeId × Value → H) :
    ReturnsInHanded {} Yba.checked os 7 .any (Rows.lawS0326CFieldsSpec.pre6 enc Yba.prog Yba.f7 Rows.lawS0326CFieldsRow.domain false) (Rows.lawS0326CFieldsSpec.post enc Yba.prog Yba.f7 false true false false) := by
  refine returnsInHanded_of_change (C := Yba.checked) own started (by kernel_rfl) Yba.func7
    (ChangeSpec.witness6 (enc := enc) (C := Yba.checked) false ⟨#[], #[.int .i64 0, .bool false], []⟩ 8 (by kernel_rfl) (by kernel_rfl) (by kernel_rfl) (by kernel_rfl)) ?_
  intro W base args ds gs before hval0 hW hcnd _
  have hval : ∀ (j : Nat) t v, Yba.f7.params[j]? = some t → args[j]? = some v → Value.okWide Yba.prog W .any base t v := hval0
  have hW' := hW
  obtain ⟨p, q, hA0, hV, rfl, hfz, hnd⟩ := hW
  have hA : DataW.TrodAll enc Yba.prog W 0 (fun _ => true) true Yba.f7.params.toList args.toList ds p := hA0
  rw [Yba.params7] at hA hval
  obtain ⟨v0, vs0, d0, ds0, p0, q0, hargs, rfl, rfl, h0, r0⟩ := trodAll_cons hA
  obtain ⟨v1, vs1, d1, ds1, p1, q1, rfl, rfl, rfl, h1, r1⟩ := trodAll_cons r0
  obtain ⟨rfl, rfl, rfl⟩ := trodAll_nil r1
  obtain rfl : args = #[v0, v1] := by cases args; simp_all
  obtain ⟨rfl, rfl⟩ := trodVars_none hV
  obtain ⟨a0, rfl, rfl, rfl, w0⟩ := open_int Yba.underlying3 (hval 0 3 v0 rfl rfl) h0
  obtain ⟨a1, rfl, rfl, rfl⟩ := open_bool Yba.underlying4 (hval 1 4 v1 rfl rfl) h1
  clear hA0 hval0
  simp only [List.append_nil] at hW'
  refine (walk a0 a1 w0 W).mono fun e W' ⟨he, hg⟩ => ?_
  subst he
  exact ⟨_, rfl, post_of_same (pa := []) (pv := []) hW' (fun _ _ _ => (trodAll_cons_mk (shut_bool Yba.underlying4 _) trodAll_mk0)) (fun sp _ => (trodAll_cons_mk (shut_int Yba.underlying3 w0) (trodAll_cons_mk (shut_bool Yba.underlying4 _) trodAll_mk0))) (fun _ _ => rfl) rfl
    (hg.frame _) hg.2.1 (ok_one (by kernel_rfl) rfl (okWide_bool_mk Yba.underlying4 _))⟩

theorem over : Rows.lawS0326CFieldsRow.holds Yba.pinned (OpenSpec.ofChange Rows.lawS0326CFieldsSpec) :=
  OpenClaim.holds_of_wide 7 Yba.f7 rfl rfl rfl rfl rfl rfl rfl ⟨rfl, rfl, rfl, rfl, rfl⟩ rfl rfl rfl rfl rfl (by kernel_rfl) Yba.func7 (by kernel_rfl)
    (of_decide_eq_true (by kernel_rfl)) (by unfold Func.isWrapper; first | (rw [if_pos (by decide +kernel)]; kernel_rfl) | (rw [if_neg (by decide +kernel)]; exact ⟨rfl, rfl⟩))
    (fun os started H enc _ => lifted os started H enc)

/-- ████ THE STATEMENT ████ -/
theorem proved : Rows.LawS0326CFieldsSaid :=
  over
end Go.Proofs.Ybulkfso.lawS0326CFields

namespace Go.Proofs.Ybulkfso
theorem lawS0326CFields_proved : Rows.LawS0326CFieldsSaid := lawS0326CFields.proved
end Go.Proofs.Ybulkfso
