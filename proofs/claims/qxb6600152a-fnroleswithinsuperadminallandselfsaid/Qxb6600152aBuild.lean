import Derived.Test.Qxb6600152aInv
namespace Go.Proofs.Qxb6600152a
open Go.RowKit

theorem info22 : (Try.prog.info? 22).map (fun i => (i.zero, i.size, i.bytes)) = some (some (.slice none 0 0), 1, 24) := by kernel_rfl

theorem row_empty (w : World) (t : TypeId) : Row (w.alloc (.cells #[] t)) w.heap.size t 0 [] := ⟨#[], Deep.blk_alloc_new _ _, rfl, Nat.le_refl _, Nat.zero_le _, rfl⟩

/-- the three empty rows with which zzBuildTable begins -/
theorem inv_start (w : World) : Inv (((w.alloc (.cells #[] 9)).alloc (.cells #[] 22)).alloc (.cells #[] 9)) w.heap.size 0 [] (w.heap.size + 1) 0 [] (w.heap.size + 2) 0 [] := by
  refine ⟨((row_empty w 9).alloc _).alloc _, ?_, ?_, ?_, by omega⟩
  · have := (row_empty (w.alloc (.cells #[] 9)) 22).alloc (.cells #[] 9)
    simpa using this
  · have := row_empty ((w.alloc (.cells #[] 9)).alloc (.cells #[] 22)) 9
    simpa using this
  · intro t ht
    cases ht

/-- behind the call of zzSortedSet: the new row t stands beside the three rows -/
structure St (w0 w : World) (g1 c1 : Nat) (R : List ByteArray) (g2 c2 : Nat) (Q : List (Nat × Nat × List ByteArray)) (g3 c3 : Nat) (P : List ByteArray) (t : Nat × Nat × List ByteArray) : Prop where
  inv : Inv w g1 c1 R g2 c2 Q g3 c3 P
  rt : Row w t.1 9 t.2.1 (t.2.2.map .string)
  t1 : t.1 ≠ g1
  t3 : t.1 ≠ g3
  tl : t.2.2.length ≤ 1048576
  bel : Below w0.heap.size w0 w
  b1 : w0.heap.size ≤ g1
  b2 : w0.heap.size ≤ g2
  b3 : w0.heap.size ≤ g3

structure St2 (w0 w : World) (g1 c1 : Nat) (R : List ByteArray) (g2 c2 : Nat) (Q : List (Nat × Nat × List ByteArray)) (g3 c3 : Nat) (P : List ByteArray) : Prop where
  inv : Inv w g1 c1 R g2 c2 Q g3 c3 P
  bel : Below w0.heap.size w0 w
  b1 : w0.heap.size ≤ g1
  b2 : w0.heap.size ≤ g2
  b3 : w0.heap.size ≤ g3

variable {w0 w w' : World} {g1 c1 : Nat} {R : List ByteArray} {g2 c2 : Nat} {Q : List (Nat × Nat × List ByteArray)} {g3 c3 : Nat} {P : List ByteArray} {t : Nat × Nat × List ByteArray}

theorem bel_grown {o : Obj} {g : Nat} (h : Below w0.heap.size w0 w) (hg : (w.alloc o).grownBy w' (some g)) (hb : w0.heap.size ≤ g) : Below w0.heap.size w0 w' :=
  (h.alloc h.size o).grown hg (by have := h.size; simp; omega) (fun j hj => by cases hj; exact hb)

theorem le_new {o : Obj} {g g' : Nat} (h : Below w0.heap.size w0 w) (hb : w0.heap.size ≤ g) (hor : g' = g ∨ g' = (w.alloc o).heap.size) : w0.heap.size ≤ g' := by
  have hs := h.size
  have e : (w.alloc o).heap.size = w.heap.size + 1 := by simp
  rcases hor with e1 | e1
  · omega
  · omega

theorem St.addR (h : St w0 w g1 c1 R g2 c2 Q g3 c3 P t) {o : Obj} {g c : Nat} {R' : List ByteArray} (hr : Row w' g 9 c (R'.map .string)) (hg : (w.alloc o).grownBy w' (some g1)) (hor : g = g1 ∨ g = (w.alloc o).heap.size) :
    St w0 w' g c R' g2 c2 Q g3 c3 P t := by
  refine ⟨(h.inv.alloc o).addR hr hg hor, (h.rt.alloc o).grown hg (by simp only [ne_eq, Option.some.injEq]; exact h.t1), ?_, h.t3, h.tl, bel_grown h.bel hg h.b1, le_new h.bel h.b1 hor, h.b2, h.b3⟩
  rcases hor with e | e
  · rw [e]; exact h.t1
  · exact new_ne (h.rt.alloc o) e

theorem St.addQ (h : St w0 w g1 c1 R g2 c2 Q g3 c3 P t) {o : Obj} {g c : Nat} (hr : Row w' g 22 c (Q.map qv ++ [qv t])) (hg : (w.alloc o).grownBy w' (some g2)) (hor : g = g2 ∨ g = (w.alloc o).heap.size) :
    St2 w0 w' g1 c1 R g c (Q ++ [t]) g3 c3 P :=
  ⟨(h.inv.alloc o).addQ (h.rt.alloc o) h.t1 h.t3 h.tl (by rw [List.map_append]; exact hr) hg, bel_grown h.bel hg h.b2, h.b1, le_new h.bel h.b2 hor, h.b3⟩

theorem St2.addP (h : St2 w0 w g1 c1 R g2 c2 Q g3 c3 P) {o : Obj} {g c : Nat} {P' : List ByteArray} (hr : Row w' g 9 c (P'.map .string)) (hg : (w.alloc o).grownBy w' (some g3)) (hor : g = g3 ∨ g = (w.alloc o).heap.size) :
    St2 w0 w' g1 c1 R g2 c2 Q g c P' :=
  ⟨(h.inv.alloc o).addP hr hg hor, bel_grown h.bel hg h.b3, h.b1, h.b2, le_new h.bel h.b3 hor⟩

theorem st_start {wr : World} (h : Inv wr g1 c1 R g2 c2 Q g3 c3 P) (hb : Below w0.heap.size w0 wr) (b1 : w0.heap.size ≤ g1) (b2 : w0.heap.size ≤ g2) (b3 : w0.heap.size ≤ g3) {n : Nat} {q : List ByteArray}
    (hr : Row w wr.heap.size 9 n (q.map .string)) (hq : q.length ≤ 1048576) (hb2 : Below wr.heap.size wr w) : St w0 w g1 c1 R g2 c2 Q g3 c3 P (wr.heap.size, n, q) :=
  ⟨h.below hb2, hr, by have := h.r1.lt; show wr.heap.size ≠ g1; omega, by have := h.r3.lt; show wr.heap.size ≠ g3; omega, hq, hb.trans (hb2.mono hb.size), b1, b2, b3⟩

set_option maxHeartbeats 2000000 in
theorem build_any (a : Option Addr) (cap n : Nat) (ns : List ByteArray) (hn : ns.length = n) (hl : n ≤ 4096) (pa : Option Addr) (pn pc : Nat) (_hpn : pn ≤ 4096) (w : World) (hx : Strs w a ns) (hp : Perms w pa pn) :
    Calls Try.prog 8 #[.slice a n cap, .slice pa pn pc] w fun e w' => ∃ g1 c1 R g2 c2 Q g4 c4 A, e = .returned (.tuple #[.slice (some ⟨g1, 0, none⟩) (List.length R) c1, .slice (some ⟨g2, 0, none⟩) (List.length R) c2, .slice (some ⟨g4, 0, none⟩) (List.length A) c4]) ∧
      Table w' g1 R g2 Q g4 A ∧ Below w.heap.size w w' := by
  have HX : Hid (Strs w a ns) := hx
  have HN : Hid (ns.length = n) := hn
  have HP : Hid (Perms w pa pn) := hp
  clear hx hn hp
  obtain ⟨i9, hi, hz0, hz1, hz2⟩ := info_parts info9
  have H9 : Hid (Try.prog.info? 9 = some i9 ∧ i9.zero = some (.string ⟨#[]⟩) ∧ i9.size = 1 ∧ i9.bytes = 16) := ⟨hi, hz0, hz1, hz2⟩
  clear hi hz0 hz1 hz2
  obtain ⟨i22, hi, hz0, hz1, hz2⟩ := info_parts info22
  have H22 : Hid (Try.prog.info? 22 = some i22 ∧ i22.zero = some (.slice none 0 0) ∧ i22.size = 1 ∧ i22.bytes = 24) := ⟨hi, hz0, hz1, hz2⟩
  clear hi hz0 hz1 hz2
  go_enter Try.func8, Try.ntmps8
  go_wp2
  go_loopw [7, 8, 9, 10] (fun v7 v8 v9 i wr => ∃ (k g1 c1 : Nat) (R : List ByteArray) (g2 c2 : Nat) (Q : List (Nat × Nat × List ByteArray)) (g3 c3 : Nat) (P : List ByteArray), k ≤ n ∧ i = .int .i64 k ∧
      v7 = .slice (some ⟨g1, 0, none⟩) R.length c1 ∧ v8 = .slice (some ⟨g2, 0, none⟩) R.length c2 ∧ v9 = .slice (some ⟨g3, 0, none⟩) P.length c3 ∧ Inv wr g1 c1 R g2 c2 Q g3 c3 P ∧ Hid (∀ t ∈ Q, ∀ x ∈ t.2.2, x ∈ P) ∧
      Hid (R.length = Q.length) ∧ R.length ≤ k ∧ P.length ≤ k * 1048576 ∧ Below w.heap.size w wr ∧ w.heap.size ≤ g1 ∧ w.heap.size ≤ g2 ∧ w.heap.size ≤ g3) (fun _ _ _ i _ => n - (intOf i).toNat)
  case atStart =>
    refine ⟨0, w.heap.size, 0, [], w.heap.size + 1, 0, [], w.heap.size + 2, 0, [], Nat.zero_le _, rfl, rfl, rfl, rfl, inv_start w, (fun t ht => by cases ht), rfl, Nat.le_refl _, Nat.zero_le _, ?_, Nat.le_refl _, by omega, by omega⟩
    exact (((Below.refl _ _).alloc (Nat.le_refl _) _).alloc (by simp) _).alloc (by simp; omega) _
  case round =>
    obtain ⟨k, g1, c1, R, g2, c2, Q, g3, c3, P, hk, rfl, rfl, rfl, rfl, hinv, hsub, hlen, hRk, hPk, hb, b1, b2, b3⟩ := hrel
    by_cases hlt : k < n
    · obtain ⟨b, off, rfl, hc⟩ := HX.out.below hb k (by rw [HN.out]; exact hlt)
      have hPk' : P.length ≤ (k + 1) * 1048576 := Nat.le_trans hPk (Nat.mul_le_mul_right _ (Nat.le_succ k))
      cases hsa : ((nth ns k).toList == [83, 85, 80, 69, 82, 95, 65, 68, 77, 73, 78]) with
      | true =>
        go_wp2
        go_roundw
        case rel => exact ⟨k + 1, g1, c1, R, g2, c2, Q, g3, c3, P, hlt, by go_num, rfl, rfl, rfl, hinv, hsub, hlen, Nat.le_succ_of_le hRk, hPk', hb, b1, b2, b3⟩
        case measure => simp [intOf]; omega
      | false =>
        go_wp2_with fail
        refine (zzIndex_any _ _ _ R _ rfl (by omega) _ hinv.r1.strs).mono ?_
        rintro e w' ⟨r, rfl, -, rfl⟩
        by_cases hr : 0 ≤ r
        · go_wp2_with fail
          go_roundw
          case rel => exact ⟨k + 1, g1, c1, R, g2, c2, Q, g3, c3, P, hlt, by go_num, rfl, rfl, rfl, hinv, hsub, hlen, Nat.le_succ_of_le hRk, hPk', hb, b1, b2, b3⟩
          case measure => simp [intOf]; omega
        · have hr' : decide (0 ≤ r) = false := decide_eq_false hr
          by_cases hkp : k < pn
          · obtain ⟨pb, po, pa', pn', pc', ps, rfl, hpc, hpl, hp20, hps⟩ := HP.out.below hb k hkp
            have HPL : Hid (ps.length = pn') := hpl
            clear hpl
            go_wp2_with fail
            refine (sortedSet_any _ _ _ ps HPL.out (by omega) _ hps).mono ?_
            rintro e w2 ⟨q, rfl, hq1, -, hqr, hb2⟩
            have hst := st_start hinv hb b1 b2 b3 hqr (by omega) hb2
            clear hinv hb hqr hb2 b1 b2 b3 hc
            generalize wr.heap.size = G at hst ⊢
            go_wp2_with (first
              | (at_builtin; refine wpList_append_row _ rfl (.tmp 46) (.tmp 48) 22 rfl 9 i9 (.string ⟨#[]⟩) 16 Try.underlying22 H9.out.1 H9.out.2.1 H9.out.2.2.1 H9.out.2.2.2 rfl g1 c1 R.length (R.map .string) (by simp) rfl (hst.inv.r1.alloc _) ⟨w2.heap.size, 0, none⟩ 1 1 [.string (nth ns k)] rfl rfl (cell_one_new _ _ _) (fun u hu => by simp at hu; subst hu; rfl) (by unfold maxLen; omega) (by omega) ?_; intro g1' c1' w3 hr3 hgr3 hor3 _; rw [map_snoc] at hr3; have hst3 := hst.addR hr3 hgr3 hor3; clear hst hr3 hgr3 hor3)
              | (at_builtin; refine wpList_append_row _ rfl (.tmp 50) (.tmp 52) 23 rfl 22 i22 (.slice none 0 0) 24 Try.underlying23 H22.out.1 H22.out.2.1 H22.out.2.2.1 H22.out.2.2.2 rfl g2 c2 R.length (Q.map qv) (by rw [List.length_map]; exact hlen.out.symm) rfl (hst3.inv.r2.alloc _) ⟨w3.heap.size, 0, none⟩ 1 1 [.slice (some ⟨G, 0, none⟩) q.length pn'] rfl rfl (cell_one_new _ _ _) (fun u hu => by simp at hu; subst hu; rfl) (by unfold maxLen; omega) (by omega) ?_; intro g2' c2' w4 hr4 hgr4 hor4 _; have hst4 := hst3.addQ (t := (G, pn', q)) hr4 hgr4 hor4; clear hst3 hr4 hgr4 hor4))
            go_loopw [9, 14] (fun v9 j wr3 => ∃ (jj g c : Nat) (P' : List ByteArray), jj ≤ q.length ∧ j = .int .i64 jj ∧ v9 = .slice (some ⟨g, 0, none⟩) P'.length c ∧ St2 w wr3 g1' c1' (R ++ [nth ns k]) g2' c2' (Q ++ [(G, pn', q)]) g c P' ∧
              P'.length ≤ P.length + jj ∧ Hid (∀ x ∈ P, x ∈ P') ∧ Hid (∀ s, s < jj → nth q s ∈ P')) (fun _ j _ => q.length - (intOf j).toNat)
            case atStart => exact ⟨0, g3, c3, P, Nat.zero_le _, rfl, rfl, hst4, Nat.le_refl _, (fun x hx => hx), (fun j hj => absurd hj (Nat.not_lt_zero _))⟩
            case round =>
              obtain ⟨jj, g, c, P', hjq, rfl, rfl, hst5, hP5, hsubP, hqP⟩ := hrel
              clear hst4
              by_cases hjt : jj < q.length
              · have hcq : wr.cell? ⟨G, jj, none⟩ = some (.string (nth q jj)) := (hst5.inv.rq (G, pn', q) (List.mem_append_right _ List.mem_cons_self)).1.cell (map_get hjt)
                go_wp2_with (at_builtin; refine wpList_append_row _ rfl (.tmp 60) (.tmp 65) 22 rfl 9 i9 (.string ⟨#[]⟩) 16 Try.underlying22 H9.out.1 H9.out.2.1 H9.out.2.2.1 H9.out.2.2.2 rfl g c P'.length (P'.map .string) (by simp) rfl (hst5.inv.r3.alloc _) ⟨wr.heap.size, 0, none⟩ 1 1 [.string (nth q jj)] rfl rfl (cell_one_new _ _ _) (fun u hu => by simp at hu; subst hu; rfl) (by unfold maxLen; omega) (by omega) ?_; intro g' c' w6 hr6 hgr6 hor6 _; rw [map_snoc] at hr6; have hst6 := hst5.addP hr6 hgr6 hor6; clear hst5 hr6 hgr6 hor6)
                go_roundw
                case rel => exact ⟨jj + 1, g', c', P' ++ [nth q jj], by omega, by go_num, by simp, hst6, by simp; omega, (fun x hx => List.mem_append_left _ (hsubP.out x hx)), all_step hqP.out (fun z hz => List.mem_append_left _ hz) (List.mem_append_right _ List.mem_cons_self)⟩
                case measure => simp [intOf]; omega
              · have hsub' : ∀ t ∈ Q ++ [(G, pn', q)], ∀ x ∈ t.2.2, x ∈ P' := by
                  intro t ht x hx
                  rcases List.mem_append.1 ht with ht | ht
                  · exact hsubP.out x (hsub.out t ht x hx)
                  · rw [List.mem_singleton] at ht
                    subst ht
                    apply Classical.byContradiction
                    intro hno
                    refine not_mem_of (x := x) (fun s hs e => hno ?_) hx
                    rw [← e]
                    exact hqP.out s (Nat.lt_of_lt_of_le hs (Nat.not_lt.1 hjt))
                have HS' : Hid (∀ t ∈ Q ++ [(G, pn', q)], ∀ x ∈ t.2.2, x ∈ P') := hsub'
                clear hsub'
                go_wp2
                go_roundw
                case rel => exact ⟨k + 1, g1', c1', R ++ [nth ns k], g2', c2', Q ++ [(G, pn', q)], g, c, P', by omega, by go_num, by simp, by simp, rfl, hst5.inv, HS', (show List.length _ = List.length _ by simp [hlen.out]), by simp; omega, by omega, hst5.bel, hst5.b1, hst5.b2, hst5.b3⟩
                case measure => simp [intOf]; omega
          · go_wp2_with fail
            refine (sortedSet_any none 0 0 [] rfl (by omega) _ (Strs.nil _ _)).mono ?_
            rintro e w2 ⟨q, rfl, hq1, -, hqr, hb2⟩
            have hst := st_start hinv hb b1 b2 b3 hqr (by omega) hb2
            clear hinv hb hqr hb2 b1 b2 b3 hc
            generalize wr.heap.size = G at hst ⊢
            go_wp2_with (first
              | (at_builtin; refine wpList_append_row _ rfl (.tmp 46) (.tmp 48) 22 rfl 9 i9 (.string ⟨#[]⟩) 16 Try.underlying22 H9.out.1 H9.out.2.1 H9.out.2.2.1 H9.out.2.2.2 rfl g1 c1 R.length (R.map .string) (by simp) rfl (hst.inv.r1.alloc _) ⟨w2.heap.size, 0, none⟩ 1 1 [.string (nth ns k)] rfl rfl (cell_one_new _ _ _) (fun u hu => by simp at hu; subst hu; rfl) (by unfold maxLen; omega) (by omega) ?_; intro g1' c1' w3 hr3 hgr3 hor3 _; rw [map_snoc] at hr3; have hst3 := hst.addR hr3 hgr3 hor3; clear hst hr3 hgr3 hor3)
              | (at_builtin; refine wpList_append_row _ rfl (.tmp 50) (.tmp 52) 23 rfl 22 i22 (.slice none 0 0) 24 Try.underlying23 H22.out.1 H22.out.2.1 H22.out.2.2.1 H22.out.2.2.2 rfl g2 c2 R.length (Q.map qv) (by rw [List.length_map]; exact hlen.out.symm) rfl (hst3.inv.r2.alloc _) ⟨w3.heap.size, 0, none⟩ 1 1 [.slice (some ⟨G, 0, none⟩) q.length 0] rfl rfl (cell_one_new _ _ _) (fun u hu => by simp at hu; subst hu; rfl) (by unfold maxLen; omega) (by omega) ?_; intro g2' c2' w4 hr4 hgr4 hor4 _; have hst4 := hst3.addQ (t := (G, 0, q)) hr4 hgr4 hor4; clear hst3 hr4 hgr4 hor4))
            go_loopw [9, 14] (fun v9 j wr3 => ∃ (jj g c : Nat) (P' : List ByteArray), jj ≤ q.length ∧ j = .int .i64 jj ∧ v9 = .slice (some ⟨g, 0, none⟩) P'.length c ∧ St2 w wr3 g1' c1' (R ++ [nth ns k]) g2' c2' (Q ++ [(G, 0, q)]) g c P' ∧
              P'.length ≤ P.length + jj ∧ Hid (∀ x ∈ P, x ∈ P') ∧ Hid (∀ s, s < jj → nth q s ∈ P')) (fun _ j _ => q.length - (intOf j).toNat)
            case atStart => exact ⟨0, g3, c3, P, Nat.zero_le _, rfl, rfl, hst4, Nat.le_refl _, (fun x hx => hx), (fun j hj => absurd hj (Nat.not_lt_zero _))⟩
            case round =>
              obtain ⟨jj, g, c, P', hjq, rfl, rfl, hst5, hP5, hsubP, hqP⟩ := hrel
              clear hst4
              by_cases hjt : jj < q.length
              · exact absurd hjt (by omega)
              · have hsub' : ∀ t ∈ Q ++ [(G, 0, q)], ∀ x ∈ t.2.2, x ∈ P' := by
                  intro t ht x hx
                  rcases List.mem_append.1 ht with ht | ht
                  · exact hsubP.out x (hsub.out t ht x hx)
                  · rw [List.mem_singleton] at ht
                    subst ht
                    apply Classical.byContradiction
                    intro hno
                    refine not_mem_of (x := x) (fun s hs e => hno ?_) hx
                    rw [← e]
                    exact hqP.out s (Nat.lt_of_lt_of_le hs (Nat.not_lt.1 hjt))
                have HS' : Hid (∀ t ∈ Q ++ [(G, 0, q)], ∀ x ∈ t.2.2, x ∈ P') := hsub'
                clear hsub'
                go_wp2
                go_roundw
                case rel => exact ⟨k + 1, g1', c1', R ++ [nth ns k], g2', c2', Q ++ [(G, 0, q)], g, c, P', by omega, by go_num, by simp, by simp, rfl, hst5.inv, HS', (show List.length _ = List.length _ by simp [hlen.out]), by simp; omega, by omega, hst5.bel, hst5.b1, hst5.b2, hst5.b3⟩
                case measure => simp [intOf]; omega
    · have HP0 : Hid (∀ t ∈ Q, ∀ x ∈ t.2.2, x ∈ P) := hsub
      go_wp2_with fail
      refine (sortedSet_any _ _ _ P rfl (by omega) _ hinv.r3.strs).mono ?_
      rintro e w2 ⟨A, rfl, hA1, hPA, hAr, hb2⟩
      have HT : Hid (Table w2 g1 R g2 Q wr.heap.size A) := hinv.table hb2 hAr HP0.out hPA hlen.out (by omega) (by omega)
      have hB2 : Below w.heap.size w w2 := hb.trans (hb2.mono hb.size)
      clear hinv hPA hAr hb hb2
      go_wp2
      go_ret3
      exact ⟨_, _, R, _, _, Q, _, _, A, rfl, HT.out, hB2⟩
end Go.Proofs.Qxb6600152a
