import Derived.Test.Qxb6600152aSet
import Derived.Test.Qxb6600152aBuild
namespace Go.Proofs.Qxb6600152a
open Go.RowKit

/-- the closure of Permissions: 'func(r Role) bool { return r.Name == role }' -/
theorem closure23 (hb : Nat) (nm role : ByteArray) (a : Option Addr) (n c : Nat) (w : World) (hh : w.cell? ⟨hb, 0, none⟩ = some (.string role)) :
    Calls Try.prog 23 #[.agg #[.string nm, .slice a n c], .pointer (some ⟨hb, 0, none⟩)] w fun e w' => e = .returned (.bool (nm.toList == role.toList)) ∧ Below w.heap.size w w' := by
  have hlt := block_lt_of_cell hh
  have hh' : ∀ o, (w.alloc o).cell? ⟨hb, 0, none⟩ = some (.string role) := fun o => keep ((Below.refl _ _).alloc (Nat.le_refl _) o) hh
  go_enter Try.func23, Try.ntmps23
  go_wp2
  go_ret
  exact ⟨rfl, (Below.refl _ _).alloc (Nat.le_refl _) _⟩

/-- 'slices.IndexFunc(roles, closure)' -/
theorem indexRole_any (hb rb n : Nat) (R : List ByteArray) (Q : List (Nat × Nat × List ByteArray)) (role : ByteArray) (hn : R.length = n) (hl : n ≤ 4096) (w : World) (hh : w.cell? ⟨hb, 0, none⟩ = some (.string role))
    (rn : ∀ i, i < n → w.cell? ⟨rb, i * 2, none⟩ = some (.string (nth R i))) (rp : ∀ i, i < n → w.cell? ⟨rb, i * 2 + 1, none⟩ = some (qv (nthQ Q i))) :
    Calls Try.prog 22 #[.slice (some ⟨rb, 0, none⟩) n n, .func (Fn.func 23) #[] #[.pointer (some ⟨hb, 0, none⟩)]] w fun e w' => ∃ r : Int, e = .returned (.int .i64 r) ∧ IsIdx R role r ∧ Below w.heap.size w w' := by
  have HN : Hid (R.length = n) := hn
  have HH : Hid (w.cell? ⟨hb, 0, none⟩ = some (.string role)) := hh
  have HRN : Hid (∀ i, i < n → w.cell? ⟨rb, i * 2, none⟩ = some (.string (nth R i))) := rn
  have HRP : Hid (∀ i, i < n → w.cell? ⟨rb, i * 2 + 1, none⟩ = some (qv (nthQ Q i))) := rp
  clear hn hh rn rp
  go_enter Try.func22, Try.ntmps22
  go_wp2
  go_loopw [8] (fun i wr => ∃ k : Nat, k ≤ n ∧ i = .int .i64 k ∧ Hid (∀ j, j < k → nth R j ≠ role) ∧ Below w.heap.size w wr) (fun i _ => n - (intOf i).toNat)
  case atStart => exact ⟨0, Nat.zero_le _, rfl, (fun j hj => absurd hj (Nat.not_lt_zero _)), Below.refl _ _⟩
  case round =>
    obtain ⟨k, hk, rfl, hno, hbl⟩ := hrel
    by_cases hlt : k < n
    · have hc0 := keep hbl (HRN.out k hlt)
      have hc1 := keep hbl (HRP.out k hlt)
      obtain ⟨qa, qn, qc, hq⟩ := qv_open (nthQ Q k)
      rw [hq] at hc1
      clear hq
      have HHr : Hid (wr.cell? ⟨hb, 0, none⟩ = some (.string role)) := keep hbl HH.out
      go_wp2_with fail
      refine (closure23 hb (nth R k) role qa qn qc _ HHr.out).mono ?_
      rintro e w2 ⟨rfl, hb2⟩
      have hB2 : Below w.heap.size w w2 := hbl.trans (hb2.mono hbl.size)
      by_cases he : nth R k = role
      · have hbe := str_is he
        have HE : Hid (nth R k = role) := he
        clear he
        go_wp2
        go_ret
        exact ⟨_, rfl, .inr ⟨k, by rw [HN.out]; exact hlt, rfl, HE.out, hno.out⟩, hB2⟩
      · have hbe := str_not he
        have HE : Hid (¬ nth R k = role) := he
        clear he
        go_wp2
        go_roundw
        case rel => exact ⟨k + 1, by omega, by go_num, no_step hno.out HE.out, hB2⟩
        case measure => simp [intOf]; omega
    · go_wp2
      go_ret
      exact ⟨_, rfl, .inl ⟨rfl, not_mem_of (by rw [HN.out]; exact fun j hj => hno.out j (by omega))⟩, hbl⟩

def SA : ByteArray := ⟨#[83, 85, 80, 69, 82, 95, 65, 68, 77, 73, 78]⟩

theorem strs_cells {w : World} {g : Nat} {xs : List ByteArray} (h : Strs w (some ⟨g, 0, none⟩) xs) : ∀ j u, (xs.map Value.string)[j]? = some u → w.cell? ((⟨g, 0, none⟩ : Addr).add j) = some u := by
  intro j u hj
  have hlt : j < xs.length := by
    have := (List.getElem?_eq_some_iff.1 hj).1
    simpa using this
  rw [map_get hlt] at hj
  obtain ⟨b, off, e1, hc⟩ := h j hlt
  cases e1
  have e0 : (⟨g, 0, none⟩ : Addr).add j = ⟨g, j, none⟩ := by unfold Addr.add; split <;> simp_all
  rw [e0]
  rw [Nat.zero_add] at hc
  exact hc.trans hj

theorem one_cells (xs : List ByteArray) : ∀ u ∈ xs.map Value.string, u.oneCell' = true := by
  intro u hu
  obtain ⟨x, _, rfl⟩ := List.mem_map.1 hu
  rfl

theorem permissions_any (S rb g4 c4 : Nat) (R : List ByteArray) (Q : List (Nat × Nat × List ByteArray)) (A : List ByteArray) (role : ByteArray) (w : World) (hs : RS w S rb g4 c4 R Q A) :
    Calls Try.prog 10 #[.pointer (some ⟨S, 0, none⟩), .string role] w fun e w' => ∃ g c H, e = .returned (.slice (some ⟨g, 0, none⟩) (List.length H) c) ∧ Strs w' (some ⟨g, 0, none⟩) H ∧ H.length ≤ 8589934592 ∧
      (role = SA → ∀ x ∈ A, x ∈ H) ∧ (∀ k, k < R.length → nth R k = role → (∀ j, j < k → nth R j ≠ role) → ∀ x ∈ (nthQ Q k).2.2, x ∈ H) ∧ Below w.heap.size w w' := by
  obtain ⟨i9, hi, hz0, hz1, hz2⟩ := info_parts info9
  have H9 : Hid (Try.prog.info? 9 = some i9 ∧ i9.zero = some (.string ⟨#[]⟩) ∧ i9.size = 1 ∧ i9.bytes = 16) := ⟨hi, hz0, hz1, hz2⟩
  clear hi hz0 hz1 hz2
  have hle := hs.le
  have hale := hs.ale
  have hs0 := hs.c0
  have hb2 : ∀ o1 o2, Below w.heap.size w ((w.alloc o1).alloc o2) := fun o1 o2 => ((Below.refl _ _).alloc (Nat.le_refl _) o1).alloc (by simp) o2
  have HB2 : Hid (∀ o1 o2, Below w.heap.size w ((w.alloc o1).alloc o2)) := hb2
  have k0 : ∀ o1 o2, ((w.alloc o1).alloc o2).cell? ⟨S, 0, none⟩ = some (.slice (some ⟨rb, 0, none⟩) R.length R.length) := fun o1 o2 => keep (hb2 o1 o2) hs.c0
  have k3 : ∀ o1 o2, ((w.alloc o1).alloc o2).cell? ⟨S, 3, none⟩ = some (.slice (some ⟨g4, 0, none⟩) A.length c4) := fun o1 o2 => keep (hb2 o1 o2) hs.c3
  clear hb2 hs0
  cases hsa : (role.toList == [83, 85, 80, 69, 82, 95, 65, 68, 77, 73, 78]) with
  | true =>
    go_enter Try.func10, Try.ntmps10
    go_wp2_with (at_builtin; refine wpList_append_row _ rfl (.tmp 10) (.tmp 14) 22 rfl 9 i9 (.string ⟨#[]⟩) 16 Try.underlying22 H9.out.1 H9.out.2.1 H9.out.2.2.1 H9.out.2.2.2 rfl (w.heap.size + 1) 0 0 [] rfl rfl (by simpa using row_empty (w.alloc (.cells #[.string role] 9)) 9) ⟨g4, 0, none⟩ A.length c4 (A.map .string) rfl (by simp) (strs_cells (hs.a.below (HB2.out _ _))) (one_cells A) (by unfold maxLen; omega) (by omega) ?_; intro g' c' w3 hr3 hgr3 hor3 _)
    go_ret
    rw [List.nil_append] at hr3
    refine ⟨g', c', A, by simp, hr3.strs, hale, fun _ x hx => hx, fun k hk h1 h2 x hx => (hs.s _ (nthQ_mem (by rw [← hs.len]; exact hk))).2.2 x hx, ?_⟩
    exact (HB2.out _ _).grown hgr3 (by simp; omega) (fun j hj => by cases hj; omega)
  | false =>
    have hnsa : ¬ role = SA := fun e => by subst e; simp [SA] at hsa
    have HNS : Hid (¬ role = SA) := hnsa
    clear hnsa
    go_enter Try.func10, Try.ntmps10
    go_wp2_with fail
    refine (indexRole_any w.heap.size rb R.length R Q role rfl hle _ (by simp) (fun i hi => keep (HB2.out _ _) (hs.rn i hi)) (fun i hi => keep (HB2.out _ _) (hs.rp i hi))).mono ?_
    rintro e w2 ⟨r, rfl, hr, hb2⟩
    have hB2 : Below w.heap.size w w2 := (HB2.out _ _).trans (hb2.mono (HB2.out _ _).size)
    have hrow : Row w2 (w.heap.size + 1) 9 0 [] := Row.below (by simpa using row_empty (w.alloc (.cells #[.string role] 9)) 9) hb2
    have hsz : w.heap.size + 2 ≤ w2.heap.size := by have := hb2.size; simp at this; omega
    have hs2 := hs.below hB2
    clear hb2 k0 k3
    rcases hr with ⟨rfl, hno⟩ | ⟨k, hk, rfl, hke, hkf⟩
    · have HNO : Hid (role ∉ R) := hno
      clear hno
      go_wp2
      go_ret
      refine ⟨_, _, [], rfl, Strs.nil _ _, Nat.zero_le _, fun e => absurd e HNS.out, fun k hk h1 _ => absurd (h1 ▸ nth_mem hk) HNO.out, hB2⟩
    · have HK : Hid (nth R k = role ∧ ∀ j, j < k → nth R j ≠ role) := ⟨hke, hkf⟩
      clear hke hkf
      have hc0 := hs2.c0
      have hcp := hs2.rp k hk
      have htm := hs2.s (nthQ Q k) (nthQ_mem (by rw [← hs2.len]; exact hk))
      have HT : Hid (Strs w2 (some ⟨(nthQ Q k).1, 0, none⟩) (nthQ Q k).2.2) := htm.1
      have hl20 := htm.2.1
      clear htm
      obtain ⟨⟨th, tc, tq⟩, ht⟩ : ∃ t, nthQ Q k = t := ⟨_, rfl⟩
      have HQ : Hid (nthQ Q k = (th, tc, tq)) := ht
      rw [ht] at hcp HT hl20
      clear ht
      have hcp' : w2.cell? ⟨rb, k * 2 + 1, none⟩ = some (.slice (some ⟨th, 0, none⟩) tq.length tc) := hcp
      have hl' : tq.length ≤ 1048576 := hl20
      have hki : (k : Int) < (R.length : Int) := by omega
      clear hcp hl20 hs2 hs
      go_wp2_with (at_builtin; refine wpList_append_row _ rfl (.tmp 24) (.tmp 32) 22 rfl 9 i9 (.string ⟨#[]⟩) 16 Try.underlying22 H9.out.1 H9.out.2.1 H9.out.2.2.1 H9.out.2.2.2 rfl (w.heap.size + 1) 0 0 [] rfl rfl hrow ⟨th, 0, none⟩ tq.length tc (tq.map .string) rfl (by simp) (strs_cells HT.out) (one_cells tq) (by unfold maxLen; omega) (by omega) ?_; intro g' c' w3 hr3 hgr3 hor3 _)
      go_ret
      rw [List.nil_append] at hr3
      refine ⟨g', c', tq, by simp, hr3.strs, by omega, fun e => absurd e HNS.out, fun j hj h1 h2 x hx => ?_, hB2.grown hgr3 hB2.size (fun j hj => by cases hj; omega)⟩
      have hjk : j = k := by
        have a1 := HK.out.2 j
        have a2 := h2 k
        apply Classical.byContradiction
        intro hne
        rcases Nat.lt_or_gt_of_ne hne with h | h
        · exact a1 h h1
        · exact a2 h HK.out.1
      subst hjk
      rw [HQ.out] at hx
      exact hx
end Go.Proofs.Qxb6600152a
