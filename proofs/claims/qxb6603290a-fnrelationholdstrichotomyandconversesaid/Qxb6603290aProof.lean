import Derived.Test.Qxb6603290aRows
import Derived.WalkKit
import Derived.ProofKit
import Derived.OpenShut
import Derived.ShutString
namespace Go.Proofs.Qxb6603290a.fnRelationHoldsTrichotomyAndConverse
open Go.ChangeShapes Go.WideShapes Go.ChangeAt Go.RowKit
open Go.ChangeMaps (open_string shut_string)
set_option linter.unusedVariables false      -- a walk need not use every 'w<i>' (that an integer argument fits its kind)

/-- What the relation numbered r answers at c. -/
def Says (r c : Int) (b : Bool) : Prop :=
  (r = 0 ∧ b = decide (c = 0)) ∨ (r = 1 ∧ b = decide (c < 0)) ∨ (r = 2 ∧ b = decide (0 < c)) ∨ (r = 3 ∧ b = decide (c ≤ 0)) ∨ (r = 4 ∧ b = decide (0 ≤ c))

theorem holds_any (r c : Int) (b : Bool) (h : Says r c b) (w : World) :
    Calls Try.prog 19 #[.int .i64 r, .int .i64 c] w fun e w' => e = .returned (.bool b) ∧ w' = w := by
  rcases h with ⟨rfl, rfl⟩ | ⟨rfl, rfl⟩ | ⟨rfl, rfl⟩ | ⟨rfl, rfl⟩ | ⟨rfl, rfl⟩
  all_goals
    go_enter Try.func19, Try.ntmps19
    go_wp2
    go_ret
    first | (simp; done) | exact ⟨congrArg (fun b => Ending.returned (.bool b)) (by by_cases h : c = 0 <;> simp [h]), rfl⟩

theorem zz_any (r c : Int) (b : Bool) (h : Says r c b) (w : World) :
    Calls Try.prog 17 #[.int .i64 r, .int .i64 c] w fun e w' => e = .returned (.bool b) ∧ w' = w := by
  have wr : (Lit.int .i64 r).wf = true := by
    rcases h with ⟨rfl, -⟩ | ⟨rfl, -⟩ | ⟨rfl, -⟩ | ⟨rfl, -⟩ | ⟨rfl, -⟩ <;> rfl
  go_enter Try.func17, Try.ntmps17
  go_wp2_with fail
  refine (holds_any r c b h _).mono ?_
  rintro e w1 ⟨rfl, rfl⟩
  go_wp2
  go_ret
  simp


theorem own : ownKnob Try.prog.godebug = none := by kernel_rfl

/-! ### STEP 1: THE WALK: the Go text returns true. 'Grown w w'': the world has at most new blocks (Derived/RowKit3.lean). Part the cases AHEAD of 'go_enter' where a test parts the walk; take each callee by a contract of your own. -/
theorem walk (a0 : Int) (w0 : (Lit.int .i64 a0).wf = true) (w : World) :
    Calls Try.prog 7 #[.int .i64 a0] w fun e w' => e = .returned (.bool true) ∧ Grown w w' := by
  rcases Int.lt_trichotomy a0 0 with hc | hc | hc
  · go_enter Try.func7, Try.ntmps7
    go_wp2_with fail
    refine (zz_any _ _ true (by unfold Says; simp; try omega) _).mono ?_
    rintro _ _ ⟨rfl, rfl⟩
    go_wp2_with fail
    refine (zz_any _ _ false (by unfold Says; simp; try omega) _).mono ?_
    rintro _ _ ⟨rfl, rfl⟩
    go_wp2_with fail
    refine (zz_any _ _ false (by unfold Says; simp; try omega) _).mono ?_
    rintro _ _ ⟨rfl, rfl⟩
    go_wp2_with fail
    refine (zz_any _ _ true (by unfold Says; simp; try omega) _).mono ?_
    rintro _ _ ⟨rfl, rfl⟩
    go_wp2_with fail
    refine (zz_any _ _ false (by unfold Says; simp; try omega) _).mono ?_
    rintro _ _ ⟨rfl, rfl⟩
    go_wp2_with fail
    refine (zz_any _ _ true (by unfold Says; simp; try omega) _).mono ?_
    rintro _ _ ⟨rfl, rfl⟩
    go_wp2_with fail
    refine (zz_any _ _ false (by unfold Says; simp; try omega) _).mono ?_
    rintro _ _ ⟨rfl, rfl⟩
    go_wp2_with fail
    refine (zz_any _ _ false (by unfold Says; simp; try omega) _).mono ?_
    rintro _ _ ⟨rfl, rfl⟩
    go_wp2_with fail
    refine (zz_any _ _ true (by unfold Says; simp; try omega) _).mono ?_
    rintro _ _ ⟨rfl, rfl⟩
    go_wp2_with fail
    refine (zz_any _ _ false (by unfold Says; simp; try omega) _).mono ?_
    rintro _ _ ⟨rfl, rfl⟩
    go_wp2
    go_ret
    exact ⟨rfl, Grown.refl _⟩
  · subst hc
    go_enter Try.func7, Try.ntmps7
    go_wp2_with fail
    refine (zz_any _ _ false (by unfold Says; simp; try omega) _).mono ?_
    rintro _ _ ⟨rfl, rfl⟩
    go_wp2_with fail
    refine (zz_any _ _ true (by unfold Says; simp; try omega) _).mono ?_
    rintro _ _ ⟨rfl, rfl⟩
    go_wp2_with fail
    refine (zz_any _ _ false (by unfold Says; simp; try omega) _).mono ?_
    rintro _ _ ⟨rfl, rfl⟩
    go_wp2_with fail
    refine (zz_any _ _ true (by unfold Says; simp; try omega) _).mono ?_
    rintro _ _ ⟨rfl, rfl⟩
    go_wp2_with fail
    refine (zz_any _ _ true (by unfold Says; simp; try omega) _).mono ?_
    rintro _ _ ⟨rfl, rfl⟩
    go_wp2_with fail
    refine (zz_any _ _ false (by unfold Says; simp; try omega) _).mono ?_
    rintro _ _ ⟨rfl, rfl⟩
    go_wp2_with fail
    refine (zz_any _ _ false (by unfold Says; simp; try omega) _).mono ?_
    rintro _ _ ⟨rfl, rfl⟩
    go_wp2_with fail
    refine (zz_any _ _ true (by unfold Says; simp; try omega) _).mono ?_
    rintro _ _ ⟨rfl, rfl⟩
    go_wp2_with fail
    refine (zz_any _ _ true (by unfold Says; simp; try omega) _).mono ?_
    rintro _ _ ⟨rfl, rfl⟩
    go_wp2_with fail
    refine (zz_any _ _ true (by unfold Says; simp; try omega) _).mono ?_
    rintro _ _ ⟨rfl, rfl⟩
    go_wp2
    go_ret
    exact ⟨rfl, Grown.refl _⟩
  · go_enter Try.func7, Try.ntmps7
    go_wp2_with fail
    refine (zz_any _ _ false (by unfold Says; simp; try omega) _).mono ?_
    rintro _ _ ⟨rfl, rfl⟩
    go_wp2_with fail
    refine (zz_any _ _ false (by unfold Says; simp; try omega) _).mono ?_
    rintro _ _ ⟨rfl, rfl⟩
    go_wp2_with fail
    refine (zz_any _ _ true (by unfold Says; simp; try omega) _).mono ?_
    rintro _ _ ⟨rfl, rfl⟩
    go_wp2_with fail
    refine (zz_any _ _ false (by unfold Says; simp; try omega) _).mono ?_
    rintro _ _ ⟨rfl, rfl⟩
    go_wp2_with fail
    refine (zz_any _ _ true (by unfold Says; simp; try omega) _).mono ?_
    rintro _ _ ⟨rfl, rfl⟩
    go_wp2_with fail
    refine (zz_any _ _ false (by unfold Says; simp; try omega) _).mono ?_
    rintro _ _ ⟨rfl, rfl⟩
    go_wp2_with fail
    refine (zz_any _ _ true (by unfold Says; simp; try omega) _).mono ?_
    rintro _ _ ⟨rfl, rfl⟩
    go_wp2_with fail
    refine (zz_any _ _ false (by unfold Says; simp; try omega) _).mono ?_
    rintro _ _ ⟨rfl, rfl⟩
    go_wp2_with fail
    refine (zz_any _ _ false (by unfold Says; simp; try omega) _).mono ?_
    rintro _ _ ⟨rfl, rfl⟩
    go_wp2_with fail
    refine (zz_any _ _ true (by unfold Says; simp; try omega) _).mono ?_
    rintro _ _ ⟨rfl, rfl⟩
    go_wp2
    go_ret
    exact ⟨rfl, Grown.refl _⟩

/-! ### THE ROW's STEP: WRITTEN OUT: LEAVE IT -/
set_option maxRecDepth 100000 in
theorem lifted (os : Os) (started : os.Started) (H : Type) (enc : TypeId × Value → H) :
    ReturnsInHanded {} Try.checked os 7 .any (Rows.fnRelationHoldsTrichotomyAndConverseSpec.pre6 enc Try.prog Try.f7 Rows.fnRelationHoldsTrichotomyAndConverseRow.domain false) (Rows.fnRelationHoldsTrichotomyAndConverseSpec.post enc Try.prog Try.f7 false true false false) := by
  refine returnsInHanded_of_change (C := Try.checked) own started (by kernel_rfl) Try.func7
    (ChangeSpec.witness6 (enc := enc) (C := Try.checked) false ⟨#[], #[.int .i64 0], []⟩ 8 (by kernel_rfl) (by kernel_rfl) (by kernel_rfl) (by kernel_rfl)) ?_
  intro W base args ds gs before hval0 hW hcnd _
  have hval : ∀ (j : Nat) t v, Try.f7.params[j]? = some t → args[j]? = some v → Value.okWide Try.prog W .any base t v := hval0
  have hW' := hW
  obtain ⟨p, q, hA0, hV, rfl, hfz, hnd⟩ := hW
  have hA : DataW.TrodAll enc Try.prog W 0 (fun _ => true) true Try.f7.params.toList args.toList ds p := hA0
  rw [Try.params7] at hA hval
  obtain ⟨v0, vs0, d0, ds0, p0, q0, hargs, rfl, rfl, h0, r0⟩ := trodAll_cons hA
  obtain ⟨rfl, rfl, rfl⟩ := trodAll_nil r0
  obtain rfl : args = #[v0] := by cases args; simp_all
  obtain ⟨rfl, rfl⟩ := trodVars_none hV
  obtain ⟨a0, rfl, rfl, rfl, w0⟩ := open_int Try.underlying3 (hval 0 3 v0 rfl rfl) h0
  clear hA0 hval0
  simp only [List.append_nil] at hW'
  refine (walk a0 w0 W).mono fun e W' ⟨he, hg⟩ => ?_
  subst he
  exact ⟨_, rfl, post_of_same (pa := []) (pv := []) hW' (fun _ _ _ => (trodAll_cons_mk (shut_bool Try.underlying4 _) trodAll_mk0)) (fun sp _ => (trodAll_cons_mk (shut_int Try.underlying3 w0) trodAll_mk0)) (fun _ _ => rfl) rfl
    (hg.frame _) hg.2.1 (ok_one (by kernel_rfl) rfl (okWide_bool_mk Try.underlying4 _))⟩

theorem over : Rows.fnRelationHoldsTrichotomyAndConverseRow.holds Try.pinned (OpenSpec.ofChange Rows.fnRelationHoldsTrichotomyAndConverseSpec) :=
  OpenClaim.holds_of_wide 7 Try.f7 rfl rfl rfl rfl rfl rfl rfl ⟨rfl, rfl, rfl, rfl, rfl⟩ rfl rfl rfl rfl rfl (by kernel_rfl) Try.func7 (by kernel_rfl)
    (of_decide_eq_true (by kernel_rfl)) (by unfold Func.isWrapper; first | (rw [if_pos (by decide +kernel)]; kernel_rfl) | (rw [if_neg (by decide +kernel)]; exact ⟨rfl, rfl⟩))
    (fun os started H enc _ => lifted os started H enc)

/-- ████ THE STATEMENT ████ -/
theorem proved : Rows.FnRelationHoldsTrichotomyAndConverseSaid :=
  over
end Go.Proofs.Qxb6603290a.fnRelationHoldsTrichotomyAndConverse
