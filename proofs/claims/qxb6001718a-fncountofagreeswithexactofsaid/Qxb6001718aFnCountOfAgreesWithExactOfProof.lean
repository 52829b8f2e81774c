import Derived.Test.Qxb6001718aRows
import Derived.Test.Qxb6001718aExact
import Derived.WalkKit
import Derived.ProofKit
import Derived.OpenShut
import Derived.ShutString
namespace Go.Proofs.Qxb6001718a.fnCountOfAgreesWithExactOf
open Go.ChangeShapes Go.WideShapes Go.ChangeAt Go.RowKit
open Go.ChangeMaps (open_string shut_string)
set_option linter.unusedVariables false      -- a walk need not use every 'w<i>' (that an integer argument fits its kind)

theorem own : ownKnob Try.prog.godebug = none := by kernel_rfl

/-! ### STEP 1: THE WALK: the Go text returns true. 'Grown w w'': the world has at most new blocks (Derived/RowKit3.lean). Part the cases AHEAD of 'go_enter' where a test parts the walk; take each callee by a contract of your own. -/
theorem walk (a0 : Int) (a1 : Int) (a2 : ByteArray) (w0 : (Lit.int .u8 a0).wf = true) (w1 : (Lit.int .i64 a1).wf = true) (w2 : a2.size ≤ maxLen) (w : World) :
    Calls Try.prog 5 #[.int .u8 a0, .int .i64 a1, .string a2] w fun e w' => e = .returned (.bool true) ∧ Grown w w' := by
  have hk := bounds_u8 w0
  have hi := bounds_i64 w1
  unfold maxLen at w2
  clear w0 w1
  by_cases hs : 1048576 < a2.size
  · go_enter Try.func5, Try.ntmps5
    go_wp2_with fail
    refine (bytes_no a0 a1 a2 hs w2 _).mono ?_
    rintro e w' ⟨rfl, rfl⟩
    go_wp2
    go_ret
    exact ⟨rfl, Grown.refl _⟩
  have hs' : a2.size ≤ 1048576 := by omega
  by_cases hk1 : a0 = 1
  · subst hk1
    clear hk
    by_cases hneg : a1 < 0
    · have hm := neg_mag a1 hneg hi.1
      go_enter Try.func5, Try.ntmps5
      go_wp2_with fail
      refine (bytes_yes 1 a1 a2 hs' _).mono ?_
      rintro e w' ⟨rfl, rfl⟩
      go_wp2_with fail
      refine (zzExactOf_neg a1 a2 hneg _).mono ?_
      rintro e w' ⟨rfl, hk⟩
      have hc0 : w'.cell? ⟨w.heap.size, 0, none⟩ = some (.int .u8 1) := by rw [hk.2.cell (by simp)]; simp
      have hc1 : w'.cell? ⟨w.heap.size, 1, none⟩ = some (.int .i64 a1) := by rw [hk.2.cell (by simp)]; simp
      have hc2 : w'.cell? ⟨w.heap.size, 2, none⟩ = some (.string a2) := by rw [hk.2.cell (by simp)]; simp
      go_wp2_with fail
      refine (zzCountOf_neg a1 a2 hneg _).mono ?_
      rintro e w'' ⟨rfl, hg⟩
      go_wp2
      go_ret
      exact ⟨rfl, Grown.join (Grown.join ((Grown.refl _).alloc _ _) hk.1) hg⟩
    · have hnn : 0 ≤ a1 := by omega
      go_enter Try.func5, Try.ntmps5
      go_wp2_with fail
      refine (bytes_yes 1 a1 a2 hs' _).mono ?_
      rintro e w' ⟨rfl, rfl⟩
      go_wp2_with fail
      refine (zzExactOf_else 1 a1 a2 (.inr hnn) _).mono ?_
      rintro e w' ⟨rfl, hk⟩
      have hc0 : w'.cell? ⟨w.heap.size, 0, none⟩ = some (.int .u8 1) := by rw [hk.2.cell (by simp)]; simp
      have hc1 : w'.cell? ⟨w.heap.size, 1, none⟩ = some (.int .i64 a1) := by rw [hk.2.cell (by simp)]; simp
      have hc2 : w'.cell? ⟨w.heap.size, 2, none⟩ = some (.string a2) := by rw [hk.2.cell (by simp)]; simp
      go_wp2_with fail
      refine (zzCountOf_else 1 a1 a2 _ (.inr hnn) rfl _).mono ?_
      rintro e w'' ⟨rfl, hg⟩
      go_wp2
      go_ret
      exact ⟨by simp, Grown.join (Grown.join ((Grown.refl _).alloc _ _) hk.1) hg⟩
  by_cases hk3 : a0 = 3
  · subst hk3
    clear hk hk1
    go_enter Try.func5, Try.ntmps5
    go_wp2_with fail
    refine (bytes_yes 3 a1 a2 hs' _).mono ?_
    rintro e w' ⟨rfl, rfl⟩
    go_wp2_with fail
    refine (zzExactOf_else 3 a1 a2 (.inl (by decide)) _).mono ?_
    rintro e w' ⟨rfl, hk⟩
    have hc0 : w'.cell? ⟨w.heap.size, 0, none⟩ = some (.int .u8 3) := by rw [hk.2.cell (by simp)]; simp
    have hc1 : w'.cell? ⟨w.heap.size, 1, none⟩ = some (.int .i64 a1) := by rw [hk.2.cell (by simp)]; simp
    have hc2 : w'.cell? ⟨w.heap.size, 2, none⟩ = some (.string a2) := by rw [hk.2.cell (by simp)]; simp
    go_wp2_with fail
    refine (zzCountOf_else 3 a1 a2 _ (.inl (by decide)) rfl _).mono ?_
    rintro e w'' ⟨rfl, hg⟩
    go_wp2
    go_ret
    exact ⟨by simp, Grown.join (Grown.join ((Grown.refl _).alloc _ _) hk.1) hg⟩
  have hn1 : (a0 != 1) = true := by simpa using hk1
  have hn3 : (a0 != 3) = true := by simpa using hk3
  go_enter Try.func5, Try.ntmps5
  go_wp2_with fail
  refine (bytes_yes a0 a1 a2 hs' _).mono ?_
  rintro e w' ⟨rfl, rfl⟩
  go_wp2
  go_ret
  exact ⟨rfl, Grown.refl _⟩

/-! ### THE ROW's STEP: WRITTEN OUT: LEAVE IT -/
set_option maxRecDepth 100000 in
theorem lifted (os : Os) (started : os.Started) (H : Type) (enc : TypeId × Value → H) :
    ReturnsInHanded {} Try.checked os 5 .any (Rows.fnCountOfAgreesWithExactOfSpec.pre6 enc Try.prog Try.f5 Rows.fnCountOfAgreesWithExactOfRow.domain false) (Rows.fnCountOfAgreesWithExactOfSpec.post enc Try.prog Try.f5 false true false false) := by
  refine returnsInHanded_of_change (C := Try.checked) own started (by kernel_rfl) Try.func5
    (ChangeSpec.witness6 (enc := enc) (C := Try.checked) false ⟨#[], #[.int .u8 0, .int .i64 0, .string ByteArray.empty], []⟩ 8 (by kernel_rfl) (by kernel_rfl) (by kernel_rfl) (by kernel_rfl)) ?_
  intro W base args ds gs before hval0 hW hcnd _
  have hval : ∀ (j : Nat) t v, Try.f5.params[j]? = some t → args[j]? = some v → Value.okWide Try.prog W .any base t v := hval0
  have hW' := hW
  obtain ⟨p, q, hA0, hV, rfl, hfz, hnd⟩ := hW
  have hA : DataW.TrodAll enc Try.prog W 0 (fun _ => true) true Try.f5.params.toList args.toList ds p := hA0
  rw [Try.params5] at hA hval
  obtain ⟨v0, vs0, d0, ds0, p0, q0, hargs, rfl, rfl, h0, r0⟩ := trodAll_cons hA
  obtain ⟨v1, vs1, d1, ds1, p1, q1, rfl, rfl, rfl, h1, r1⟩ := trodAll_cons r0
  obtain ⟨v2, vs2, d2, ds2, p2, q2, rfl, rfl, rfl, h2, r2⟩ := trodAll_cons r1
  obtain ⟨rfl, rfl, rfl⟩ := trodAll_nil r2
  obtain rfl : args = #[v0, v1, v2] := by cases args; simp_all
  obtain ⟨rfl, rfl⟩ := trodVars_none hV
  obtain ⟨a0, rfl, rfl, rfl, w0⟩ := open_int Try.underlying5 (hval 0 5 v0 rfl rfl) h0
  obtain ⟨a1, rfl, rfl, rfl, w1⟩ := open_int Try.underlying2 (hval 1 2 v1 rfl rfl) h1
  obtain ⟨a2, rfl, rfl, rfl, w2⟩ := open_string Try.underlying9 (hval 2 9 v2 rfl rfl) h2
  clear hA0 hval0
  simp only [List.append_nil] at hW'
  refine (walk a0 a1 a2 w0 w1 w2 W).mono fun e W' ⟨he, hg⟩ => ?_
  subst he
  exact ⟨_, rfl, post_of_same (pa := []) (pv := []) hW' (fun _ _ _ => (trodAll_cons_mk (shut_bool Try.underlying4 _) trodAll_mk0)) (fun sp _ => (trodAll_cons_mk (shut_int Try.underlying5 w0) (trodAll_cons_mk (shut_int Try.underlying2 w1) (trodAll_cons_mk (shut_string Try.underlying9 w2) trodAll_mk0)))) (fun _ _ => rfl) rfl
    (hg.frame _) hg.2.1 (ok_one (by kernel_rfl) rfl (okWide_bool_mk Try.underlying4 _))⟩

theorem over : Rows.fnCountOfAgreesWithExactOfRow.holds Try.pinned (OpenSpec.ofChange Rows.fnCountOfAgreesWithExactOfSpec) :=
  OpenClaim.holds_of_wide 5 Try.f5 rfl rfl rfl rfl rfl rfl rfl ⟨rfl, rfl, rfl, rfl, rfl⟩ rfl rfl rfl rfl rfl (by kernel_rfl) Try.func5 (by kernel_rfl)
    (of_decide_eq_true (by kernel_rfl)) (by unfold Func.isWrapper; first | (rw [if_pos (by decide +kernel)]; kernel_rfl) | (rw [if_neg (by decide +kernel)]; exact ⟨rfl, rfl⟩))
    (fun os started H enc _ => lifted os started H enc)

/-- The statement. -/
theorem proved : Rows.FnCountOfAgreesWithExactOfSaid :=
  over
end Go.Proofs.Qxb6001718a.fnCountOfAgreesWithExactOf
namespace Go.Proofs.Qxb6001718a
theorem fnCountOfAgreesWithExactOf_holds : Rows.FnCountOfAgreesWithExactOfSaid := fnCountOfAgreesWithExactOf.proved
end Go.Proofs.Qxb6001718a
