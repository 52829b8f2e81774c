import Derived.Test.Qxb6001718aRows
import Derived.Test.Qxb6001718aCount
import Derived.WalkKit
import Derived.ProofKit
import Derived.OpenShut
import Derived.ShutString
namespace Go.Proofs.Qxb6001718a.fnCountOfRoundTrip
open Go.ChangeShapes Go.WideShapes Go.ChangeAt Go.RowKit
open Go.ChangeMaps (open_string shut_string)
set_option linter.unusedVariables false      -- a walk need not use every 'w<i>' (that an integer argument fits its kind)

theorem own : ownKnob Try.prog.godebug = none := by kernel_rfl

/-! ### STEP 1: THE WALK: the Go text returns true. 'Grown w w'': the world has at most new blocks (Derived/RowKit3.lean). Part the cases AHEAD of 'go_enter' where a test parts the walk; take each callee by a contract of your own. -/
theorem walk (a0 : Int) (a1 : Int) (w0 : (Lit.int .u64 a0).wf = true) (w1 : (Lit.int .i64 a1).wf = true) (w : World) :
    Calls Try.prog 8 #[.int .u64 a0, .int .i64 a1] w fun e w' => e = .returned (.bool true) ∧ Grown w w' := by
  have hu := bounds_u64 w0
  have hn := bounds_i64 w1
  have hne : (a0 != a0) = false := by simp
  by_cases hs : 0 ≤ a1
  · go_enter Try.func8, Try.ntmps8
    go_wp2_with fail
    refine (uintVal_any a0 hu.1 hu.2 _).mono ?_
    rintro e w1 ⟨kd, i, rfl, h1, h2, hg1⟩
    have H2 : Hid (IntKind.u64.wrap i = a0) := h2
    clear h2
    go_wp2_with fail
    refine (zzCountOf_else kd i _ a0 h1 H2.out _).mono ?_
    rintro e w2 ⟨rfl, hg2⟩
    go_wp2_with fail
    refine (intValue_any a1 _).mono ?_
    rintro e w3 ⟨rfl, hg3⟩
    go_wp2_with fail
    refine (zzCountOf_else 1 a1 _ a1 (.inr hs) (wrap_u64_of hs (by omega)) _).mono ?_
    rintro e w4 ⟨rfl, hg4⟩
    go_wp2
    go_ret
    exact ⟨by simp, Grown.join (Grown.join (Grown.join hg1 hg2) hg3) hg4⟩
  · have hlt : a1 < 0 := by omega
    go_enter Try.func8, Try.ntmps8
    go_wp2_with fail
    refine (uintVal_any a0 hu.1 hu.2 _).mono ?_
    rintro e w1 ⟨kd, i, rfl, h1, h2, hg1⟩
    have H2 : Hid (IntKind.u64.wrap i = a0) := h2
    clear h2
    go_wp2_with fail
    refine (zzCountOf_else kd i _ a0 h1 H2.out _).mono ?_
    rintro e w2 ⟨rfl, hg2⟩
    go_wp2_with fail
    refine (intValue_any a1 _).mono ?_
    rintro e w3 ⟨rfl, hg3⟩
    go_wp2_with fail
    refine (zzCountOf_neg a1 _ hlt _).mono ?_
    rintro e w4 ⟨rfl, hg4⟩
    go_wp2
    go_ret
    exact ⟨by simp, Grown.join (Grown.join (Grown.join hg1 hg2) hg3) hg4⟩

/-! ### THE ROW's STEP: WRITTEN OUT: LEAVE IT -/
set_option maxRecDepth 100000 in
theorem lifted (os : Os) (started : os.Started) (H : Type) (enc : TypeId × Value → H) :
    ReturnsInHanded {} Try.checked os 8 .any (Rows.fnCountOfRoundTripSpec.pre6 enc Try.prog Try.f8 Rows.fnCountOfRoundTripRow.domain false) (Rows.fnCountOfRoundTripSpec.post enc Try.prog Try.f8 false true false false) := by
  refine returnsInHanded_of_change (C := Try.checked) own started (by kernel_rfl) Try.func8
    (ChangeSpec.witness6 (enc := enc) (C := Try.checked) false ⟨#[], #[.int .u64 0, .int .i64 0], []⟩ 8 (by kernel_rfl) (by kernel_rfl) (by kernel_rfl) (by kernel_rfl)) ?_
  intro W base args ds gs before hval0 hW hcnd _
  have hval : ∀ (j : Nat) t v, Try.f8.params[j]? = some t → args[j]? = some v → Value.okWide Try.prog W .any base t v := hval0
  have hW' := hW
  obtain ⟨p, q, hA0, hV, rfl, hfz, hnd⟩ := hW
  have hA : DataW.TrodAll enc Try.prog W 0 (fun _ => true) true Try.f8.params.toList args.toList ds p := hA0
  rw [Try.params8] at hA hval
  obtain ⟨v0, vs0, d0, ds0, p0, q0, hargs, rfl, rfl, h0, r0⟩ := trodAll_cons hA
  obtain ⟨v1, vs1, d1, ds1, p1, q1, rfl, rfl, rfl, h1, r1⟩ := trodAll_cons r0
  obtain ⟨rfl, rfl, rfl⟩ := trodAll_nil r1
  obtain rfl : args = #[v0, v1] := by cases args; simp_all
  obtain ⟨rfl, rfl⟩ := trodVars_none hV
  obtain ⟨a0, rfl, rfl, rfl, w0⟩ := open_int Try.underlying31 (hval 0 31 v0 rfl rfl) h0
  obtain ⟨a1, rfl, rfl, rfl, w1⟩ := open_int Try.underlying2 (hval 1 2 v1 rfl rfl) h1
  clear hA0 hval0
  simp only [List.append_nil] at hW'
  refine (walk a0 a1 w0 w1 W).mono fun e W' ⟨he, hg⟩ => ?_
  subst he
  exact ⟨_, rfl, post_of_same (pa := []) (pv := []) hW' (fun _ _ _ => (trodAll_cons_mk (shut_bool Try.underlying4 _) trodAll_mk0)) (fun sp _ => (trodAll_cons_mk (shut_int Try.underlying31 w0) (trodAll_cons_mk (shut_int Try.underlying2 w1) trodAll_mk0))) (fun _ _ => rfl) rfl
    (hg.frame _) hg.2.1 (ok_one (by kernel_rfl) rfl (okWide_bool_mk Try.underlying4 _))⟩

theorem over : Rows.fnCountOfRoundTripRow.holds Try.pinned (OpenSpec.ofChange Rows.fnCountOfRoundTripSpec) :=
  OpenClaim.holds_of_wide 8 Try.f8 rfl rfl rfl rfl rfl rfl rfl ⟨rfl, rfl, rfl, rfl, rfl⟩ rfl rfl rfl rfl rfl (by kernel_rfl) Try.func8 (by kernel_rfl)
    (of_decide_eq_true (by kernel_rfl)) (by unfold Func.isWrapper; first | (rw [if_pos (by decide +kernel)]; kernel_rfl) | (rw [if_neg (by decide +kernel)]; exact ⟨rfl, rfl⟩))
    (fun os started H enc _ => lifted os started H enc)

/-- The statement. -/
theorem proved : Rows.FnCountOfRoundTripSaid :=
  over
end Go.Proofs.Qxb6001718a.fnCountOfRoundTrip
namespace Go.Proofs.Qxb6001718a
theorem fnCountOfRoundTrip_holds : Rows.FnCountOfRoundTripSaid := fnCountOfRoundTrip.proved
end Go.Proofs.Qxb6001718a
