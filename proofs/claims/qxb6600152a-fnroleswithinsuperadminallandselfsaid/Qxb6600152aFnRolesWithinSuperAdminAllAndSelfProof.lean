import Derived.Test.Qxb6600152aRows
import Derived.Test.Qxb6600152aLaw
import Derived.WalkKit
import Derived.ProofKit
import Derived.OpenShut
import Derived.ShutString
import Derived.ChangeOld
import Derived.Below
import Derived.SliceStrings
import Derived.Deep.Slices
namespace Go.Proofs.Qxb6600152a.fnRolesWithinSuperAdminAllAndSelf
open Go.ChangeShapes Go.WideShapes Go.ChangeAt Go.RowKit
open Go.ChangeMaps (open_string shut_string)

theorem own : ownKnob Try.prog.godebug = none := by kernel_rfl
theorem laidOut : laidOutB Try.prog = true := by kernel_rfl
theorem cells9 : Try.prog.cellsOf 9 = 1 := by kernel_rfl
theorem cells22 : Try.prog.cellsOf 22 = 1 := by kernel_rfl

section
variable {H : Type} {enc : TypeId × Value → H} {w : World}

theorem strs_of {x : Addr} {ss : List ByteArray} {len : Nat} (hl : len ≤ ss.length) (hcell : ∀ i, i < ss.length → w.cell? (x.add i) = some (.string (ss.getD i ByteArray.empty))) : Strs w (some x) (ss.take len) := by
  intro i hi
  rw [List.length_take] at hi
  obtain ⟨b, off, spot⟩ := x
  have hspot : spot = none := by simpa [Addr.add] using World.cell?_spot (hcell 0 (by omega))
  subst hspot
  refine ⟨b, off, rfl, ?_⟩
  have hc := hcell i (by omega)
  rw [add_plain] at hc
  rw [hc]
  unfold nth
  rw [List.getD_eq_getElem?_getD, List.getD_eq_getElem?_getD, List.getElem?_take, if_pos (by omega)]

theorem strs_open {fuel : Nat} {v : Value} {x : DataW H × List MemPlace} (h : DataW.trod enc Try.prog w 0 (fun _ => true) true fuel 22 [v] = some x) :
    ∃ a n c ns, v = .slice a n c ∧ List.length ns = n ∧ n ≤ maxLen ∧ Strs w a ns := by
  rcases open_strings Try.underlying22 Try.underlying9 cells9 h with ⟨hcs, _⟩ | ⟨x, len, cap, ss, hcs, _, hl, hm, hz, _, hcell, _⟩
  · simp only [List.cons.injEq, and_true] at hcs
    exact ⟨none, 0, 0, [], hcs, rfl, Nat.zero_le _, Strs.nil _ _⟩
  · simp only [List.cons.injEq, and_true] at hcs
    simp only [if_true] at hz
    exact ⟨some x, len, cap, ss.take len, hcs, by rw [List.length_take]; omega, by omega, strs_of (by omega) hcell⟩

theorem perms_open {fuel : Nat} {v : Value} {x : DataW H × List MemPlace} (h : DataW.trod enc Try.prog w 0 (fun _ => true) true fuel 23 [v] = some x) :
    ∃ a n c fa fn fc fx, v = .slice a n c ∧ n ≤ maxLen ∧ PermsF w a n fa fn fc fx := by
  rcases Deep.open_slice1 Try.underlying23 cells22 h with ⟨hcs, _⟩ | ⟨x, len, cap, m, n, V, D, Pl, hcs, _, hl, hm, hmm, _, hx⟩
  · simp only [List.cons.injEq, and_true] at hcs
    exact ⟨none, 0, 0, fun _ => none, fun _ => 0, fun _ => 0, fun _ => [], hcs, Nat.zero_le _, fun i hi => absurd hi (Nat.not_lt_zero _)⟩
  · simp only [List.cons.injEq, and_true] at hcs
    simp only [if_true] at hmm
    subst hmm
    have each : ∀ i, i < len → ∃ y : Option Addr × Nat × Nat × List ByteArray, w.cell? (x.add i) = some (.slice y.1 y.2.1 y.2.2.1) ∧ y.2.2.2.length = y.2.1 ∧ y.2.1 ≤ maxLen ∧ Strs w y.1 y.2.2.2 := by
      intro i hi
      obtain ⟨hc, ht⟩ := hx i (by omega)
      obtain ⟨a, n', c, ns, e, e1, e2, e3⟩ := strs_open ht
      exact ⟨(a, n', c, ns), by rw [hc, e], e1, e2, e3⟩
    obtain ⟨y, hy⟩ := Deep.choose_lt each
    refine ⟨some x, len, m, fun i => (y i).1, fun i => (y i).2.1, fun i => (y i).2.2.1, fun i => (y i).2.2.2, hcs, by omega, fun i hi => ?_⟩
    obtain ⟨b, off, spot⟩ := x
    have hspot : spot = none := by simpa [Addr.add] using World.cell?_spot (hy 0 (by omega)).1
    subst hspot
    obtain ⟨h1, h2, h3, h4⟩ := hy i hi
    rw [add_plain] at h1
    exact ⟨b, off, rfl, h1, h2, by unfold maxLen at h3; omega, h4⟩
end

set_option maxRecDepth 100000 in
theorem lifted (os : Os) (started : os.Started) (H : Type) (enc : TypeId × Value → H) :
    ReturnsInHanded {} Try.checked os 4 .any (Rows.fnRolesWithinSuperAdminAllAndSelfSpec.pre6 enc Try.prog Try.f4 Rows.fnRolesWithinSuperAdminAllAndSelfRow.domain false) (Rows.fnRolesWithinSuperAdminAllAndSelfSpec.post enc Try.prog Try.f4 false true false false) := by
  refine returnsInHanded_of_change (C := Try.checked) own started (by kernel_rfl) Try.func4
    (ChangeSpec.witness6 (enc := enc) (C := Try.checked) false ⟨#[], #[.slice none 0 0, .slice none 0 0, .string ByteArray.empty], []⟩ 8 (by kernel_rfl) (by kernel_rfl) (by kernel_rfl) (by kernel_rfl)) ?_
  intro W base args ds gs before hval0 hW hcnd _
  have hval : ∀ (j : Nat) t v, Try.f4.params[j]? = some t → args[j]? = some v → Value.okWide Try.prog W .any base t v := hval0
  have hW' := hW
  obtain ⟨p, q, hA0, hV, rfl, hfz, hnd⟩ := hW
  have hA : DataW.TrodAll enc Try.prog W 0 (fun _ => true) true Try.f4.params.toList args.toList ds p := hA0
  rw [Try.params4] at hA hval
  obtain ⟨v0, vs0, d0, ds0, p0, q0, hargs, rfl, rfl, h0, r0⟩ := trodAll_cons hA
  obtain ⟨v1, vs1, d1, ds1, p1, q1, rfl, rfl, rfl, h1, r1⟩ := trodAll_cons r0
  obtain ⟨v2, vs2, d2, ds2, p2, q2, rfl, rfl, rfl, h2, r2⟩ := trodAll_cons r1
  obtain ⟨rfl, rfl, rfl⟩ := trodAll_nil r2
  obtain rfl : args = #[v0, v1, v2] := by cases args; simp_all
  obtain ⟨rfl, rfl⟩ := trodVars_none hV
  have k0 := h0
  have lt0 : ∀ x ∈ p0, x.block < W.heap.size := by obtain ⟨m, hm⟩ := k0; exact DataW.trod_lt m _ _ _ hm
  have k1 := h1
  have lt1 : ∀ x ∈ p1, x.block < W.heap.size := by obtain ⟨m, hm⟩ := k1; exact DataW.trod_lt m _ _ _ hm
  obtain ⟨a0, n0, c0, rfl⟩ := okWide_slice Try.underlying22 (hval 0 22 v0 rfl rfl)
  obtain ⟨a1, n1, c1, rfl⟩ := okWide_slice Try.underlying23 (hval 1 23 v1 rfl rfl)
  obtain ⟨ns, e1, e2, e3⟩ : ∃ ns, List.length ns = n0 ∧ n0 ≤ maxLen ∧ Strs W a0 ns := by
    obtain ⟨fuel, hf⟩ := h0
    obtain ⟨a, n, c, ns, he, e1, e2, e3⟩ := strs_open (v := .slice a0 n0 c0) hf
    cases he
    exact ⟨ns, e1, e2, e3⟩
  obtain ⟨fa, fn, fc, fx, f1, f2⟩ : ∃ fa fn fc fx, n1 ≤ maxLen ∧ PermsF W a1 n1 fa fn fc fx := by
    obtain ⟨fuel, hf⟩ := h1
    obtain ⟨a, n, c, fa, fn, fc, fx, he, e1, e2⟩ := perms_open (v := .slice a1 n1 c1) hf
    cases he
    exact ⟨fa, fn, fc, fx, e1, e2⟩
  obtain ⟨a2, rfl, rfl, rfl, w2⟩ := open_string Try.underlying9 (hval 2 9 v2 rfl rfl) h2
  clear hA0 hval0
  refine (law_any a0 c0 n0 ns e1 (by unfold maxLen at e2; omega) a1 n1 c1 (by unfold maxLen at f1; omega) fa fn fc fx a2 W e3 f2).mono fun e W' ⟨he, bel⟩ => ?_
  subst he
  exact ⟨_, rfl, _, _, _, [], _, [], hW', trodAll_mk1 (shut_bool Try.underlying4 _), (trodAll_cons_mk (Below.trod laidOut (by kernel_rfl) (of_decide_eq_true (by kernel_rfl)) k0 bel lt0) (trodAll_cons_mk (Below.trod laidOut (by kernel_rfl) (of_decide_eq_true (by kernel_rfl)) k1 bel lt1) (trodAll_cons_mk (shut_string Try.underlying9 w2) trodAll_mk0))), rfl, bel.frame _, fun h => by cases h⟩

theorem over : Rows.fnRolesWithinSuperAdminAllAndSelfRow.holds Try.pinned (OpenSpec.ofChange Rows.fnRolesWithinSuperAdminAllAndSelfSpec) :=
  OpenClaim.holds_of_wide 4 Try.f4 rfl rfl rfl rfl rfl rfl rfl ⟨rfl, rfl, rfl, rfl, rfl⟩ rfl rfl rfl rfl rfl (by kernel_rfl) Try.func4 (by kernel_rfl)
    (of_decide_eq_true (by kernel_rfl)) (by unfold Func.isWrapper; first | (rw [if_pos (by decide +kernel)]; kernel_rfl) | (rw [if_neg (by decide +kernel)]; exact ⟨rfl, rfl⟩))
    (fun os started H enc _ => lifted os started H enc)

/-- The statement. -/
theorem proved : Rows.FnRolesWithinSuperAdminAllAndSelfSaid := over
end Go.Proofs.Qxb6600152a.fnRolesWithinSuperAdminAllAndSelf
namespace Go.Proofs.Qxb6600152a
theorem fnRolesWithinSuperAdminAllAndSelf_holds : Rows.FnRolesWithinSuperAdminAllAndSelfSaid := fnRolesWithinSuperAdminAllAndSelf.proved
end Go.Proofs.Qxb6600152a
