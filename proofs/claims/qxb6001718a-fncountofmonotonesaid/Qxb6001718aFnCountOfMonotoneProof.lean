import Derived.Test.Qxb6001718aRows
import Derived.Test.Qxb6001718aCount
import Derived.WalkKit
import Derived.ProofKit
import Derived.OpenShut
import Derived.ShutString
namespace Go.Proofs.Qxb6001718a.fnCountOfMonotone
open Go.ChangeShapes Go.WideShapes Go.ChangeAt Go.RowKit
open Go.ChangeMaps (open_string shut_string)
set_option linter.unusedVariables false      -- a walk need not use every 'w<i>' (that an integer argument fits its kind)

theorem own : ownKnob Try.prog.godebug = none := by kernel_rfl

/-! ### STEP 1: THE WALK: the Go text returns true. 'Grown w w'': the world has at most new blocks (Derived/RowKit3.lean). Part the cases AHEAD of 'go_enter' where a test parts the walk; take each callee by a contract of your own. -/
theorem walk (a0 : Int) (a1 : Int) (a2 : Int) (w0 : (Lit.int .i64 a0).wf = true) (w1 : (Lit.int .i64 a1).wf = true) (w2 : (Lit.int .u64 a2).wf = true) (w : World) :
    Calls Try.prog 7 #[.int .i64 a0, .int .i64 a1, .int .u64 a2] w fun e w' => e = .returned (.bool true) ∧ Grown w w' := by
  have hA := bounds_i64 w0
  have hB := bounds_i64 w1
  have hU := bounds_u64 w2
  clear w0 w1 w2
  by_cases hab : a1 < a0
  · go_enter Try.func7, Try.ntmps7
    go_wp2
    go_ret
    exact ⟨rfl, Grown.refl _⟩
  -- the two counts, as numbers
  have ha : ∃ ca : Int, 0 ≤ ca ∧ (ca = 0 ∨ ca ≤ a0) ∧ (ca = 0 ∨ 0 ≤ a0) ∧ ca ≤ 9223372036854775807 ∧ ∀ w, Calls Try.prog 12 #[.agg #[.int .u8 1, .int .i64 a0, .string ⟨#[]⟩]] w fun e w' => e = .returned (.int .u64 ca) ∧ Grown w w' := by
    by_cases h : a0 < 0
    · exact ⟨0, by omega, by omega, by omega, by omega, fun w => zzCountOf_neg a0 _ h w⟩
    · exact ⟨a0, by omega, by omega, by omega, by omega, fun w => zzCountOf_else 1 a0 _ a0 (.inr (by omega)) (wrap_u64_of (by omega) (by omega)) w⟩
  have hb : ∃ cb : Int, 0 ≤ cb ∧ a1 ≤ cb ∧ cb ≤ 9223372036854775807 ∧ ∀ w, Calls Try.prog 12 #[.agg #[.int .u8 1, .int .i64 a1, .string ⟨#[]⟩]] w fun e w' => e = .returned (.int .u64 cb) ∧ Grown w w' := by
    by_cases h : a1 < 0
    · exact ⟨0, by omega, by omega, by omega, fun w => zzCountOf_neg a1 _ h w⟩
    · exact ⟨a1, by omega, by omega, by omega, fun w => zzCountOf_else 1 a1 _ a1 (.inr (by omega)) (wrap_u64_of (by omega) (by omega)) w⟩
  obtain ⟨ca, ca0, ca1, ca2, ca3, hca⟩ := ha
  obtain ⟨cb, cb0, cb1, cb2, hcb⟩ := hb
  have hcc : ¬ cb < ca := by omega
  have Ha : Hid (∀ w, Calls Try.prog 12 #[.agg #[.int .u8 1, .int .i64 a0, .string ⟨#[]⟩]] w fun e w' => e = .returned (.int .u64 ca) ∧ Grown w w') := hca
  have Hb : Hid (∀ w, Calls Try.prog 12 #[.agg #[.int .u8 1, .int .i64 a1, .string ⟨#[]⟩]] w fun e w' => e = .returned (.int .u64 cb) ∧ Grown w w') := hcb
  clear hca hcb ca1 ca2
  by_cases hu : 9223372036854775807 < a2
  · have hcu : ¬ a2 ≤ cb := by omega
    go_enter Try.func7, Try.ntmps7
    go_wp2_with fail
    refine (intValue_any a0 _).mono ?_
    rintro e w1 ⟨rfl, hg1⟩
    go_wp2_with fail
    refine (Ha.out _).mono ?_
    rintro e w2 ⟨rfl, hg2⟩
    go_wp2_with fail
    refine (intValue_any a1 _).mono ?_
    rintro e w3 ⟨rfl, hg3⟩
    go_wp2_with fail
    refine (Hb.out _).mono ?_
    rintro e w4 ⟨rfl, hg4⟩
    go_wp2_with fail
    refine (uintVal_any a2 hU.1 hU.2 _).mono ?_
    rintro e w5 ⟨kd, i, rfl, h1, h2, hg5⟩
    have H2 : Hid (IntKind.u64.wrap i = a2) := h2
    clear h2
    go_wp2_with fail
    refine (zzCountOf_else kd i _ a2 h1 H2.out _).mono ?_
    rintro e w6 ⟨rfl, hg6⟩
    go_wp2
    go_ret
    exact ⟨by simp, Grown.join (Grown.join (Grown.join (Grown.join (Grown.join hg1 hg2) hg3) hg4) hg5) hg6⟩
  · go_enter Try.func7, Try.ntmps7
    go_wp2_with fail
    refine (intValue_any a0 _).mono ?_
    rintro e w1 ⟨rfl, hg1⟩
    go_wp2_with fail
    refine (Ha.out _).mono ?_
    rintro e w2 ⟨rfl, hg2⟩
    go_wp2_with fail
    refine (intValue_any a1 _).mono ?_
    rintro e w3 ⟨rfl, hg3⟩
    go_wp2_with fail
    refine (Hb.out _).mono ?_
    rintro e w4 ⟨rfl, hg4⟩
    go_wp2
    go_ret
    exact ⟨by simp, Grown.join (Grown.join (Grown.join hg1 hg2) hg3) hg4⟩

/-! ### THE ROW's STEP: WRITTEN OUT: LEAVE IT -/
set_option maxRecDepth 100000 in
theorem lifted (os : Os) (started : os.Started) (H : Type) (enc : TypeId × Value → H) :
    ReturnsInHanded {} Try.checked os 7 .any (Rows.fnCountOfMonotoneSpec.pre6 enc Try.prog Try.f7 Rows.fnCountOfMonotoneRow.domain false) (Rows.fnCountOfMonotoneSpec.post enc Try.prog Try.f7 false true false false) := by
  refine returnsInHanded_of_change (C := Try.checked) own started (by kernel_rfl) Try.func7
    (ChangeSpec.witness6 (enc := enc) (C := Try.checked) false ⟨#[], #[.int .i64 0, .int .i64 0, .int .u64 0], []⟩ 8 (by kernel_rfl) (by kernel_rfl) (by kernel_rfl) (by kernel_rfl)) ?_
  intro W base args ds gs before hval0 hW hcnd _
  have hval : ∀ (j : Nat) t v, Try.f7.params[j]? = some t → args[j]? = some v → Value.okWide Try.prog W .any base t v := hval0
  have hW' := hW
  obtain ⟨p, q, hA0, hV, rfl, hfz, hnd⟩ := hW
  have hA : DataW.TrodAll enc Try.prog W 0 (fun _ => true) true Try.f7.params.toList args.toList ds p := hA0
  rw [Try.params7] at hA hval
  obtain ⟨v0, vs0, d0, ds0, p0, q0, hargs, rfl, rfl, h0, r0⟩ := trodAll_cons hA
  obtain ⟨v1, vs1, d1, ds1, p1, q1, rfl, rfl, rfl, h1, r1⟩ := trodAll_cons r0
  obtain ⟨v2, vs2, d2, ds2, p2, q2, rfl, rfl, rfl, h2, r2⟩ := trodAll_cons r1
  obtain ⟨rfl, rfl, rfl⟩ := trodAll_nil r2
  obtain rfl : args = #[v0, v1, v2] := by cases args; simp_all
  obtain ⟨rfl, rfl⟩ := trodVars_none hV
  obtain ⟨a0, rfl, rfl, rfl, w0⟩ := open_int Try.underlying2 (hval 0 2 v0 rfl rfl) h0
  obtain ⟨a1, rfl, rfl, rfl, w1⟩ := open_int Try.underlying2 (hval 1 2 v1 rfl rfl) h1
  obtain ⟨a2, rfl, rfl, rfl, w2⟩ := open_int Try.underlying31 (hval 2 31 v2 rfl rfl) h2
  clear hA0 hval0
  simp only [List.append_nil] at hW'
  refine (walk a0 a1 a2 w0 w1 w2 W).mono fun e W' ⟨he, hg⟩ => ?_
  subst he
  exact ⟨_, rfl, post_of_same (pa := []) (pv := []) hW' (fun _ _ _ => (trodAll_cons_mk (shut_bool Try.underlying4 _) trodAll_mk0)) (fun sp _ => (trodAll_cons_mk (shut_int Try.underlying2 w0) (trodAll_cons_mk (shut_int Try.underlying2 w1) (trodAll_cons_mk (shut_int Try.underlying31 w2) trodAll_mk0)))) (fun _ _ => rfl) rfl
    (hg.frame _) hg.2.1 (ok_one (by kernel_rfl) rfl (okWide_bool_mk Try.underlying4 _))⟩

theorem over : Rows.fnCountOfMonotoneRow.holds Try.pinned (OpenSpec.ofChange Rows.fnCountOfMonotoneSpec) :=
  OpenClaim.holds_of_wide 7 Try.f7 rfl rfl rfl rfl rfl rfl rfl ⟨rfl, rfl, rfl, rfl, rfl⟩ rfl rfl rfl rfl rfl (by kernel_rfl) Try.func7 (by kernel_rfl)
    (of_decide_eq_true (by kernel_rfl)) (by unfold Func.isWrapper; first | (rw [if_pos (by decide +kernel)]; kernel_rfl) | (rw [if_neg (by decide +kernel)]; exact ⟨rfl, rfl⟩))
    (fun os started H enc _ => lifted os started H enc)

/-- The statement. -/
theorem proved : Rows.FnCountOfMonotoneSaid :=
  over
end Go.Proofs.Qxb6001718a.fnCountOfMonotone
namespace Go.Proofs.Qxb6001718a
theorem fnCountOfMonotone_holds : Rows.FnCountOfMonotoneSaid := fnCountOfMonotone.proved
end Go.Proofs.Qxb6001718a
