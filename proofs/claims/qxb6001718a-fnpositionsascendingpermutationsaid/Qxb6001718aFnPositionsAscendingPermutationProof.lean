import Derived.Test.Qxb6001718aRows
import Derived.Test.Qxb6001718aPositions
import Derived.WalkKit
import Derived.ProofKit
import Derived.OpenShut
import Derived.ShutString
namespace Go.Proofs.Qxb6001718a.fnPositionsAscendingPermutation
open Go.ChangeShapes Go.WideShapes Go.ChangeAt Go.RowKit
open Go.ChangeMaps (open_string shut_string)
set_option linter.unusedVariables false      -- a walk need not use every 'w<i>' (that an integer argument fits its kind)

theorem own : ownKnob Try.prog.godebug = none := by kernel_rfl

/-! ### STEP 1: THE WALK: the Go text returns true. 'Grown w w'': the world has at most new blocks (Derived/RowKit3.lean). Part the cases AHEAD of 'go_enter' where a test parts the walk; take each callee by a contract of your own. -/
theorem walk (a0 : Int) (w0 : (Lit.int .i64 a0).wf = true) (w : World) :
    Calls Try.prog 3 #[.int .i64 a0] w fun e w' => e = .returned (.bool true) ∧ Grown w w' := by
  by_cases h0 : a0 < 0
  · go_enter Try.func3, Try.ntmps3
    go_wp2
    go_ret
    exact ⟨rfl, Grown.refl _⟩
  by_cases h1 : 65536 < a0
  · go_enter Try.func3, Try.ntmps3
    go_wp2
    go_ret
    exact ⟨rfl, Grown.refl _⟩
  obtain ⟨n, rfl⟩ := Int.eq_ofNat_of_zero_le (Int.not_lt.1 h0)
  have hn : n ≤ 65536 := by omega
  have hne : ((n : Int) != (n : Int)) = false := by simp
  have hmk := fun w => run_make_row' (P := Try.prog) 24 4 (.bool false) 1 Try.underlying24 info4 rfl .i64 .i64 n (by omega) (by omega) w
  go_enter Try.func3, Try.ntmps3
  go_wp2_with fail
  refine (zzPositions_any n hn _).mono ?_
  rintro e w1 ⟨rfl, hr, hs, hg, hb⟩
  go_wp2
  go_loopw [5] (fun i wr => ∃ k : Nat, k ≤ n ∧ i = .int .i64 k ∧ wr.rowIs w.heap.size 3 n (fun j => .int .i64 j) ∧ wr.rowIs (w.heap.size + 1) 4 n (fun j => .bool (decide (j < k))) ∧ Grown w wr) (fun i _ => n - (intOf i).toNat)
  case atStart =>
    exact ⟨0, Nat.zero_le _, rfl, hr.alloc _, hs ▸ (World.rowIs_made w1 (.bool false) n 4).congr (fun i hi => by simp), hg.alloc _ _⟩
  case round =>
    obtain ⟨k, hk, rfl, hrow, hseen, hgr⟩ := hrel
    clear hmk hr hs hb hg
    by_cases hlt : k < n
    · have hc := hrow.cell hlt
      have hc1 : wr.cell? ⟨w.heap.size + 1, k, none⟩ = some (.bool false) := by simpa using hseen.cell hlt
      have hf1 := hseen.frozen k
      have hset : (wr.setCell ⟨w.heap.size + 1, k, none⟩ (.bool true)).rowIs (w.heap.size + 1) 4 n (fun j => .bool (decide (j < k + 1))) :=
        (hseen.set k (.bool true)).congr (fun i hi => by
          by_cases e : i = k
          · subst e; simp
          · by_cases l : i < k
            · simp [e, l, show i < k + 1 by omega]
            · simp [e, l, show ¬ i < k + 1 by omega])
      have hrow' := hrow.setOther (a := ⟨w.heap.size + 1, k, none⟩) (by simp) (.bool true)
      have hg' := hgr.setCell (a := ⟨w.heap.size + 1, k, none⟩) (by simp) (.bool true)
      by_cases hk0 : k = 0
      · subst hk0
        go_wp2
        go_roundw
        case rel => exact ⟨1, by omega, by go_num, hrow', hset, hg'⟩
        case measure => simp [intOf]; omega
      · obtain ⟨m, rfl⟩ : ∃ m, k = m + 1 := ⟨k - 1, by omega⟩
        have hcm : (wr.setCell ⟨w.heap.size + 1, m + 1, none⟩ (.bool true)).cell? ⟨w.heap.size, m, none⟩ = some (.int .i64 m) := hrow'.cell (by omega)
        go_wp2
        go_roundw
        case rel => exact ⟨m + 1 + 1, by omega, by go_num, hrow', hset, hg'⟩
        case measure => simp [intOf]; omega
    · go_wp2
      go_ret
      exact ⟨rfl, hgr⟩

/-! ### THE ROW's STEP: WRITTEN OUT: LEAVE IT -/
set_option maxRecDepth 100000 in
theorem lifted (os : Os) (started : os.Started) (H : Type) (enc : TypeId × Value → H) :
    ReturnsInHanded {} Try.checked os 3 .any (Rows.fnPositionsAscendingPermutationSpec.pre6 enc Try.prog Try.f3 Rows.fnPositionsAscendingPermutationRow.domain false) (Rows.fnPositionsAscendingPermutationSpec.post enc Try.prog Try.f3 false true false false) := by
  refine returnsInHanded_of_change (C := Try.checked) own started (by kernel_rfl) Try.func3
    (ChangeSpec.witness6 (enc := enc) (C := Try.checked) false ⟨#[], #[.int .i64 0], []⟩ 8 (by kernel_rfl) (by kernel_rfl) (by kernel_rfl) (by kernel_rfl)) ?_
  intro W base args ds gs before hval0 hW hcnd _
  have hval : ∀ (j : Nat) t v, Try.f3.params[j]? = some t → args[j]? = some v → Value.okWide Try.prog W .any base t v := hval0
  have hW' := hW
  obtain ⟨p, q, hA0, hV, rfl, hfz, hnd⟩ := hW
  have hA : DataW.TrodAll enc Try.prog W 0 (fun _ => true) true Try.f3.params.toList args.toList ds p := hA0
  rw [Try.params3] at hA hval
  obtain ⟨v0, vs0, d0, ds0, p0, q0, hargs, rfl, rfl, h0, r0⟩ := trodAll_cons hA
  obtain ⟨rfl, rfl, rfl⟩ := trodAll_nil r0
  obtain rfl : args = #[v0] := by cases args; simp_all
  obtain ⟨rfl, rfl⟩ := trodVars_none hV
  obtain ⟨a0, rfl, rfl, rfl, w0⟩ := open_int Try.underlying3 (hval 0 3 v0 rfl rfl) h0
  clear hA0 hval0
  simp only [List.append_nil] at hW'
  refine (walk a0 w0 W).mono fun e W' ⟨he, hg⟩ => ?_
  subst he
  exact ⟨_, rfl, post_of_same (pa := []) (pv := []) hW' (fun _ _ _ => (trodAll_cons_mk (shut_bool Try.underlying4 _) trodAll_mk0)) (fun sp _ => (trodAll_cons_mk (shut_int Try.underlying3 w0) trodAll_mk0)) (fun _ _ => rfl) rfl
    (hg.frame _) hg.2.1 (ok_one (by kernel_rfl) rfl (okWide_bool_mk Try.underlying4 _))⟩

theorem over : Rows.fnPositionsAscendingPermutationRow.holds Try.pinned (OpenSpec.ofChange Rows.fnPositionsAscendingPermutationSpec) :=
  OpenClaim.holds_of_wide 3 Try.f3 rfl rfl rfl rfl rfl rfl rfl ⟨rfl, rfl, rfl, rfl, rfl⟩ rfl rfl rfl rfl rfl (by kernel_rfl) Try.func3 (by kernel_rfl)
    (of_decide_eq_true (by kernel_rfl)) (by unfold Func.isWrapper; first | (rw [if_pos (by decide +kernel)]; kernel_rfl) | (rw [if_neg (by decide +kernel)]; exact ⟨rfl, rfl⟩))
    (fun os started H enc _ => lifted os started H enc)

/-- The statement. -/
theorem proved : Rows.FnPositionsAscendingPermutationSaid :=
  over
end Go.Proofs.Qxb6001718a.fnPositionsAscendingPermutation
namespace Go.Proofs.Qxb6001718a
theorem fnPositionsAscendingPermutation_holds : Rows.FnPositionsAscendingPermutationSaid := fnPositionsAscendingPermutation.proved
end Go.Proofs.Qxb6001718a
