import Derived.Test.Qxb6600152aPerm
namespace Go.Proofs.Qxb6600152a
open Go.RowKit

theorem take_snoc {R : List ByteArray} {k : Nat} (h : k < R.length) : R.take (k + 1) = R.take k ++ [nth R k] := by
  rw [List.take_add_one, nth_get h]; rfl

/-- what RolesWithin's loop has gathered after k rounds -/
structure Got (R : List ByteArray) (Q : List (Nat × Nat × List ByteArray)) (H : List ByteArray) (k : Nat) (N : List ByteArray) : Prop where
  sub : List.Sublist N (R.take k)
  inn : ∀ j, j < k → (∀ x ∈ (nthQ Q j).2.2, x ∈ H) → nth R j ∈ N
  all : (∀ j, j < k → ∀ x ∈ (nthQ Q j).2.2, x ∈ H) → N = R.take k

theorem Got.zero (R : List ByteArray) (Q : List (Nat × Nat × List ByteArray)) (H : List ByteArray) : Got R Q H 0 [] := ⟨by simp, fun j hj => absurd hj (Nat.not_lt_zero _), fun _ => by simp⟩

theorem Got.hit {R : List ByteArray} {Q : List (Nat × Nat × List ByteArray)} {H : List ByteArray} {k : Nat} {N : List ByteArray} (h : Got R Q H k N) (hk : k < R.length) : Got R Q H (k + 1) (N ++ [nth R k]) := by
  refine ⟨?_, fun j hj hx => ?_, fun hall => ?_⟩
  · rw [take_snoc hk]; exact h.sub.append (List.Sublist.refl _)
  · by_cases e : j = k
    · subst e; exact List.mem_append_right _ List.mem_cons_self
    · exact List.mem_append_left _ (h.inn j (by omega) hx)
  · rw [take_snoc hk, h.all fun j hj => hall j (by omega)]

theorem Got.miss {R : List ByteArray} {Q : List (Nat × Nat × List ByteArray)} {H : List ByteArray} {k : Nat} {N : List ByteArray} (h : Got R Q H k N) (hk : k < R.length) (hno : ¬ ∀ x ∈ (nthQ Q k).2.2, x ∈ H) : Got R Q H (k + 1) N := by
  refine ⟨?_, fun j hj hx => ?_, fun hall => absurd (hall k (by omega)) hno⟩
  · rw [take_snoc hk]; exact h.sub.trans (List.sublist_append_left _ _)
  · by_cases e : j = k
    · subst e; exact absurd hx hno
    · exact h.inn j (by omega) hx

set_option maxHeartbeats 2000000 in
theorem within_any (S rb g4 c4 : Nat) (R : List ByteArray) (Q : List (Nat × Nat × List ByteArray)) (A : List ByteArray) (role : ByteArray) (w : World) (hs : RS w S rb g4 c4 R Q A) :
    Calls Try.prog 14 #[.pointer (some ⟨S, 0, none⟩), .string role] w fun e w' => ∃ g c N, e = .returned (.slice (some ⟨g, 0, none⟩) (List.length N) c) ∧ Strs w' (some ⟨g, 0, none⟩) N ∧ List.Sublist N R ∧
      (role = SA → N = R) ∧ (∀ k, k < R.length → nth R k = role → (∀ j, j < k → nth R j ≠ role) → role ∈ N) ∧ Below w.heap.size w w' := by
  obtain ⟨i9, hi, hz0, hz1, hz2⟩ := info_parts info9
  have H9 : Hid (Try.prog.info? 9 = some i9 ∧ i9.zero = some (.string ⟨#[]⟩) ∧ i9.size = 1 ∧ i9.bytes = 16) := ⟨hi, hz0, hz1, hz2⟩
  clear hi hz0 hz1 hz2
  have hle := hs.le
  go_enter Try.func14, Try.ntmps14
  go_wp2_with fail
  refine (permissions_any S rb g4 c4 R Q A role _ hs).mono ?_
  rintro e w2 ⟨hg, hc, H, rfl, hH, hHl, hsa, hix, hb2⟩
  have HSA : Hid (role = SA → ∀ x ∈ A, x ∈ H) := hsa
  have HIX : Hid (∀ k, k < R.length → nth R k = role → (∀ j, j < k → nth R j ≠ role) → ∀ x ∈ (nthQ Q k).2.2, x ∈ H) := hix
  have hs2 := hs.below hb2
  clear hsa hix hs
  have hal : ∀ o, Below w2.heap.size w2 (w2.alloc o) := fun o => (Below.refl _ _).alloc (Nat.le_refl _) o
  have hal2 : ∀ o1 o2, Below w2.heap.size w2 ((w2.alloc o1).alloc o2) := fun o1 o2 => (hal o1).alloc (by simp) o2
  have k0 : ∀ o1 o2, ((w2.alloc o1).alloc o2).cell? ⟨S, 0, none⟩ = some (.slice (some ⟨rb, 0, none⟩) R.length R.length) := fun o1 o2 => keep (hal2 o1 o2) hs2.c0
  obtain ⟨W1, hW1⟩ : ∃ W1, W1 = w2.alloc (.cells #[.slice (some ⟨hg, 0, none⟩) H.length hc] 22) := ⟨_, rfl⟩
  have HW1 : Hid (W1 = w2.alloc (.cells #[.slice (some ⟨hg, 0, none⟩) H.length hc] 22)) := hW1
  have hb1 : Below w2.heap.size w2 W1 := hW1 ▸ hal _
  have hsz1 : Hid (W1.heap.size = w2.heap.size + 1) := (by rw [hW1]; simp : W1.heap.size = w2.heap.size + 1)
  have hh1 : W1.cell? ⟨w2.heap.size, 0, none⟩ = some (.slice (some ⟨hg, 0, none⟩) H.length hc) := by rw [hW1]; simp
  clear hW1 hal hal2
  have hs1 := hs2.below hb1
  have hH1 := hH.below hb1
  go_wp2
  go_loopw [6, 18] (fun v i wr => ∃ (k g c : Nat) (N : List ByteArray), k ≤ R.length ∧ i = .int .i64 k ∧ v = .slice (some ⟨g, 0, none⟩) N.length c ∧ Row wr g 9 c (N.map .string) ∧ Got R Q H k N ∧ Below W1.heap.size W1 wr ∧ W1.heap.size ≤ g) (fun _ i _ => R.length - (intOf i).toNat)
  case atStart =>
    refine ⟨0, w2.heap.size + 1, 0, [], Nat.zero_le _, rfl, rfl, ?_, Got.zero R Q H, ?_, by rw [hsz1.out]; exact Nat.le_refl _⟩
    · rw [← HW1.out, ← hsz1.out]; exact row_empty W1 9
    · rw [← HW1.out]; exact (Below.refl _ _).alloc (Nat.le_refl _) _
  case round =>
    obtain ⟨k, g, c, N, hk, rfl, rfl, hrow, hgot, hbw, hg1⟩ := hrel
    have hsr := hs1.below hbw
    have hHr := hH1.below hbw
    have hhr := keep hbw hh1
    have hNk : N.length ≤ k := by have := hgot.sub.length_le; rw [List.length_take] at this; omega
    clear k0
    by_cases hlt : k < R.length
    · have hcn := hsr.rn k hlt
      have hcp := hsr.rp k hlt
      have htm := hsr.s (nthQ Q k) (nthQ_mem (by rw [← hsr.len]; exact hlt))
      have HT : Hid (Strs wr (some ⟨(nthQ Q k).1, 0, none⟩) (nthQ Q k).2.2) := htm.1
      have hl20 := htm.2.1
      clear htm
      obtain ⟨⟨th, tc, tq⟩, ht⟩ : ∃ t, nthQ Q k = t := ⟨_, rfl⟩
      have HQ : Hid (nthQ Q k = (th, tc, tq)) := ht
      rw [ht] at hcp HT hl20
      clear ht
      have hcp' : wr.cell? ⟨rb, k * 2 + 1, none⟩ = some (.slice (some ⟨th, 0, none⟩) tq.length tc) := hcp
      have hl' : tq.length ≤ 1048576 := hl20
      clear hcp hl20
      have HR : Hid (Row wr g 9 c (N.map .string)) := hrow
      have HG : Hid (Got R Q H k N) := hgot
      clear hrow hgot
      go_wp2_with fail
      refine (containsFunc_any w2.heap.size (some ⟨hg, 0, none⟩) hc H.length H rfl (by omega) (some ⟨th, 0, none⟩) tc tq.length tq rfl (by omega) _ (hHr.below ((Below.refl _ _).alloc (Nat.le_refl _) _)) (HT.out.below ((Below.refl _ _).alloc (Nat.le_refl _) _)) (keep ((Below.refl _ _).alloc (Nat.le_refl _) _) hhr)).mono ?_
      rintro e w3 ⟨b, rfl, hbq, rfl⟩
      have HBQ : Hid (b = false ↔ ∀ p ∈ tq, p ∈ H) := hbq
      clear hbq hcn hcp' hsr hHr hhr HT
      cases b with
      | true =>
        have hno : ¬ ∀ x ∈ (nthQ Q k).2.2, x ∈ H := by
          rw [HQ.out]
          exact fun h => by have := HBQ.out.2 h; cases this
        have HG' : Hid (Got R Q H (k + 1) N) := HG.out.miss hlt hno
        clear hno
        go_wp2
        go_roundw
        case rel => exact ⟨k + 1, g, c, N, by omega, by go_num, rfl, HR.out.alloc _, HG'.out, hbw.alloc hbw.size _, hg1⟩
        case measure => simp [intOf]; omega
      | false =>
        have HG' : Hid (Got R Q H (k + 1) (N ++ [nth R k])) := HG.out.hit hlt
        go_wp2_with (at_builtin; refine wpList_append_row _ rfl (.tmp 27) (.tmp 30) 22 rfl 9 i9 (.string ⟨#[]⟩) 16 Try.underlying22 H9.out.1 H9.out.2.1 H9.out.2.2.1 H9.out.2.2.2 rfl g c N.length (N.map .string) (by simp) rfl ((HR.out.alloc _).alloc _) ⟨wr.heap.size + 1, 0, none⟩ 1 1 [.string (nth R k)] rfl rfl (by simpa using cell_one_new (wr.alloc (.cells #[.string (nth R k), .slice (some ⟨th, 0, none⟩) tq.length tc] 37)) (.string (nth R k)) 9) (fun u hu => by simp at hu; subst hu; rfl) (by unfold maxLen; omega) (by omega) ?_; intro g' c' w4 hr4 hgr4 hor4 _; rw [map_snoc] at hr4)
        have hbw4 : Below W1.heap.size W1 w4 := ((hbw.alloc hbw.size _).alloc (by have := hbw.size; simp; omega) _).grown hgr4 (by have := hbw.size; simp; omega) (fun j hj => by cases hj; exact hg1)
        have hg4 : W1.heap.size ≤ g' := by
          have h1 := hbw.size
          rcases hor4 with e | e
          · omega
          · simp at e; omega
        clear hgr4 hor4
        go_roundw
        case rel => exact ⟨k + 1, g', c', N ++ [nth R k], by omega, by go_num, by simp, hr4, HG'.out, hbw4, hg4⟩
        case measure => simp [intOf]; omega
    · obtain rfl : k = R.length := by omega
      have hfull : R.take R.length = R := List.take_length
      have hw : Below w.heap.size w wr := hb2.trans (((hb1.trans (hbw.mono hb1.size))).mono hb2.size)
      have hst := hrow.strs
      have HF : Hid (Strs wr (some ⟨g, 0, none⟩) N ∧ List.Sublist N R ∧ (role = SA → N = R) ∧ (∀ k, k < R.length → nth R k = role → (∀ j, j < k → nth R j ≠ role) → role ∈ N) ∧ Below w.heap.size w wr) := by
        refine ⟨hst, by have := hgot.sub; rwa [hfull] at this, fun e => ?_, fun k hk h1 h2 => ?_, hw⟩
        · rw [← hfull]
          exact hgot.all fun j hj x hx => HSA.out e x ((hs1.s _ (nthQ_mem (by rw [← hs1.len]; exact hj))).2.2 x hx)
        · rw [← h1]
          exact hgot.inn k hk (HIX.out k hk h1 h2)
      clear hfull hst hgot hrow hsr hHr hhr
      go_wp2
      go_ret
      exact ⟨g, c, N, rfl, HF.out⟩
end Go.Proofs.Qxb6600152a
