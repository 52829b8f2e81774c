import Derived.Test.Qxb6600152aLeaf
namespace Go.Proofs.Qxb6600152a
open Go.RowKit

theorem info9 : (Try.prog.info? 9).map (fun i => (i.zero, i.size, i.bytes)) = some (some (.string ⟨#[]⟩), 1, 16) := by kernel_rfl

def scells (n : Nat) : Array Value := madeCells #[.string ⟨#[]⟩] n

theorem run_make0 (n : Nat) (hn : n ≤ 17592186044416) (w : World) :
    (Instr.makeSlice 22 (.int .i64 0) (.int .i64 n)).run Try.prog w = .ok (.slice (some ⟨w.heap.size, 0, none⟩) 0 n) (w.alloc (.cells (scells n) 9)) := by
  obtain ⟨i, hi, hzz⟩ := Option.map_eq_some_iff.1 info9
  simp only [Prod.mk.injEq] at hzz
  obtain ⟨hz, hs, hb⟩ := hzz
  have hr := run_make (P := Try.prog) w 22 9 i _ Try.underlying22 hi hz .i64 .i64 0 n (by omega) (by omega) (by rw [hb]; omega) (by omega)
  simp only [Int.toNat_natCast, hs, Nat.mul_one] at hr
  exact hr

theorem row_made (w : World) (n : Nat) (hn : n ≤ maxLen) : Row (w.alloc (.cells (scells n) 9)) w.heap.size 9 n (([] : List ByteArray).map .string) :=
  ⟨_, Deep.blk_alloc_new _ _, size_madeCells _ _, Nat.zero_le _, hn, by simp⟩

theorem map_get {l : List ByteArray} {i : Nat} (h : i < l.length) : (l.map Value.string)[i]? = some (.string (nth l i)) := by rw [List.getElem?_map, nth_get h]; rfl

theorem map_snoc (q : List ByteArray) (x : ByteArray) : q.map Value.string ++ [.string x] = (q ++ [x]).map .string := by simp

theorem shift0 (q : List ByteArray) (x : ByteArray) : q ++ [x] = q.take q.length ++ x :: q.drop q.length := by simp

theorem nth_mid {q : List ByteArray} {t : Nat} {y : ByteArray} (h : t < q.length) : nth (q.take (t + 1) ++ y :: q.drop (t + 1)) t = nth q t := by
  unfold nth
  rw [List.getD_eq_getElem?_getD, List.getD_eq_getElem?_getD, List.getElem?_append_left (by rw [List.length_take]; omega), List.getElem?_take, if_pos (by omega)]

theorem shift_step {q : List ByteArray} {t : Nat} {y : ByteArray} (h : t < q.length) :
    (q.take (t + 1) ++ y :: q.drop (t + 1)).set (t + 1) (nth q t) = q.take t ++ nth q t :: q.drop t := by
  have e0 : (q.take (t + 1)).length = t + 1 := by rw [List.length_take]; omega
  rw [List.set_append_right _ _ (by omega), e0, Nat.sub_self, List.set_cons_zero]
  have e1 : q.take (t + 1) = q.take t ++ [nth q t] := by
    rw [List.take_add_one, nth_get h]; rfl
  have e2 : q.drop t = nth q t :: q.drop (t + 1) := by
    rw [List.drop_eq_getElem_cons h]
    have := nth_get h
    rw [List.getElem?_eq_getElem h] at this
    rw [Option.some.inj this]
  rw [e1, e2]
  simp

theorem put_at {q : List ByteArray} {i : Nat} {x y : ByteArray} (h : i ≤ q.length) :
    (q.take i ++ y :: q.drop i).set i x = q.take i ++ x :: q.drop i := by
  have e0 : (q.take i).length = i := by rw [List.length_take]; omega
  rw [List.set_append_right _ _ (by omega), e0, Nat.sub_self, List.set_cons_zero]

theorem mid_length {q : List ByteArray} {i : Nat} {y : ByteArray} (h : i ≤ q.length) : (q.take i ++ y :: q.drop i).length = q.length + 1 := by
  simp; omega

theorem mid_mem {q : List ByteArray} {i : Nat} {x z : ByteArray} (h : z ∈ q ∨ z = x) : z ∈ q.take i ++ x :: q.drop i := by
  rcases h with h | h
  · rw [← List.take_append_drop i q] at h
    rcases List.mem_append.1 h with h | h
    · exact List.mem_append_left _ h
    · exact List.mem_append_right _ (List.mem_cons_of_mem _ h)
  · subst h; exact List.mem_append_right _ List.mem_cons_self

theorem all_step {xs q q' : List ByteArray} {k : Nat} (h : ∀ j, j < k → nth xs j ∈ q) (hq : ∀ z, z ∈ q → z ∈ q') (hk : nth xs k ∈ q') : ∀ j, j < k + 1 → nth xs j ∈ q' := by
  intro j hj
  by_cases e : j = k
  · subst e; exact hk
  · exact hq _ (h j (by omega))

set_option maxHeartbeats 1000000 in
theorem sortedSet_any (a : Option Addr) (cap n : Nat) (xs : List ByteArray) (hn : xs.length = n) (hl : n ≤ 8589934592) (w : World) (hx : Strs w a xs) :
    Calls Try.prog 20 #[.slice a n cap] w fun e w' => ∃ q : List ByteArray, e = .returned (.slice (some ⟨w.heap.size, 0, none⟩) q.length n) ∧ q.length ≤ n ∧ (∀ x ∈ xs, x ∈ q) ∧
      Row w' w.heap.size 9 n (q.map .string) ∧ Below w.heap.size w w' := by
  have HX : Hid (Strs w a xs) := hx
  have HN : Hid (xs.length = n) := hn
  clear hx hn
  have hmk := fun w => run_make0 n (by omega) w
  obtain ⟨i0, hi, hz0, hz1, hz2⟩ := info_parts info9
  have HI : Hid (Try.prog.info? 9 = some i0 ∧ i0.zero = some (.string ⟨#[]⟩) ∧ i0.size = 1 ∧ i0.bytes = 16) := ⟨hi, hz0, hz1, hz2⟩
  clear hi hz0 hz1 hz2
  go_enter Try.func20, Try.ntmps20
  go_wp2
  go_loopw [3, 4] (fun v i wr => ∃ (k : Nat) (q : List ByteArray), k ≤ n ∧ i = .int .i64 k ∧ q.length ≤ k ∧ v = .slice (some ⟨w.heap.size, 0, none⟩) q.length n ∧ Row wr w.heap.size 9 n (q.map .string) ∧
    Hid (∀ j, j < k → nth xs j ∈ q) ∧ Below w.heap.size w wr) (fun _ i _ => n - (intOf i).toNat)
  case atStart => exact ⟨0, [], Nat.zero_le _, rfl, Nat.le_refl _, rfl, row_made w n (by unfold maxLen; omega), (fun j hj => absurd hj (Nat.not_lt_zero _)), (Below.refl _ _).alloc (Nat.le_refl _) _⟩
  case round =>
    obtain ⟨k, q, hk, rfl, hqk, rfl, hrow, hall, hb⟩ := hrel
    clear hmk
    by_cases hlt : k < n
    · obtain ⟨b, off, rfl, hc⟩ := HX.out.below hb k (by rw [HN.out]; exact hlt)
      go_wp2
      go_loop [6] (fun i => ∃ m : Nat, m ≤ q.length ∧ i = .int .i64 m) (fun i => q.length - (intOf i).toNat)
      case atStart => exact ⟨0, Nat.zero_le _, rfl⟩
      case round =>
        obtain ⟨m, hm, rfl⟩ := hrel
        by_cases hmq : m < q.length
        · have hcm : wr.cell? ⟨w.heap.size, m, none⟩ = some (.string (nth q m)) := hrow.cell (map_get hmq)
          by_cases hless : Op.bytesLess (nth q m).toList (nth xs k).toList = true
          · go_wp2
            go_round
            case rel => exact ⟨m + 1, by omega, by go_num⟩
            case measure => simp [intOf]; omega
          · have hless' : Op.bytesLess (nth q m).toList (nth xs k).toList = false := by simpa using hless
            by_cases he : nth q m = nth xs k
            · have hbe := str_is he
              have HE : Hid (nth q m = nth xs k) := he
              clear he
              go_wp2
              go_roundw
              case rel => exact ⟨k + 1, q, by omega, by go_num, by omega, rfl, hrow, all_step hall.out (fun z hz => hz) (HE.out ▸ nth_mem hmq), hb⟩
              case measure => simp [intOf]; omega
            · have hbe := str_not he
              clear he
              go_wp2_with (at_builtin; refine wpList_append_row _ rfl (.tmp 47) (.tmp 49) 22 rfl 9 i0 (.string ⟨#[]⟩) 16 Try.underlying22 HI.out.1 HI.out.2.1 HI.out.2.2.1 HI.out.2.2.2 rfl w.heap.size n q.length (q.map .string) (by simp) rfl (hrow.alloc _) ⟨wr.heap.size, 0, none⟩ 1 1 [.string (nth xs k)] rfl rfl (cell_one_new _ _ _) (fun u hu => by simp at hu; subst hu; rfl) (by unfold maxLen; omega) (by omega) ?_; intro g' cap' w2 hrow2 hgr hor hfit; obtain ⟨rfl, rfl⟩ := hfit (by omega); clear hor hfit)
              have hb2 : Below w.heap.size w w2 := (hb.alloc hb.size _).grown hgr (by simp; have := hb.size; omega) (fun j hj => by cases hj; exact Nat.le_refl _)
              rw [map_snoc, shift0] at hrow2
              clear hgr hrow hc
              go_loopw [7] (fun j w3 => ∃ (t : Nat) (y : ByteArray), m ≤ t ∧ t ≤ q.length ∧ j = .int .i64 t ∧ Row w3 w.heap.size 9 n ((q.take t ++ y :: q.drop t).map .string) ∧ Below w.heap.size w w3) (fun j _ => (intOf j).toNat)
              case atStart => exact ⟨q.length, nth xs k, hm, Nat.le_refl _, by go_num, hrow2, hb2⟩
              case round =>
                clear hrow2 hb2 hb
                obtain ⟨t, y, hmt, htq, rfl, hr3, hb3⟩ := hrel
                by_cases hgt : m < t
                · obtain ⟨s, rfl⟩ : ∃ s, t = s + 1 := ⟨t - 1, by omega⟩
                  have hc1 : wr.cell? ⟨w.heap.size, s, none⟩ = some (.string (nth q s)) := by rw [hr3.cell (map_get (by rw [mid_length htq]; omega)), nth_mid (by omega)]
                  have hc2 := hr3.cell (map_get (i := s + 1) (by rw [mid_length htq]; omega))
                  have hf2 := hr3.frozen (s + 1)
                  have hr4 : Row (wr.setCell ⟨w.heap.size, s + 1, none⟩ (.string (nth q s))) w.heap.size 9 n ((q.take s ++ nth q s :: q.drop s).map .string) := by
                    have := hr3.set (s + 1) (.string (nth q s))
                    rwa [← List.map_set, shift_step (by omega)] at this
                  go_wp2
                  go_roundw
                  case rel => exact ⟨s, nth q s, by omega, by omega, by go_num, hr4, hb3.setCell (Nat.le_refl _) _⟩
                  case measure => simp [intOf]
                · obtain rfl : m = t := by omega
                  have hc2 := hr3.cell (map_get (i := m) (by rw [mid_length htq]; omega))
                  have hf2 := hr3.frozen m
                  have hr4 : Row (wr.setCell ⟨w.heap.size, m, none⟩ (.string (nth xs k))) w.heap.size 9 n ((q.take m ++ nth xs k :: q.drop m).map .string) := by
                    have := hr3.set m (.string (nth xs k))
                    rwa [← List.map_set, put_at htq] at this
                  go_wp2
                  go_roundw
                  case rel => exact ⟨k + 1, q.take m ++ nth xs k :: q.drop m, by omega, by go_num, by rw [mid_length htq]; omega, by rw [mid_length htq], hr4, all_step hall.out (fun z hz => mid_mem (.inl hz)) (mid_mem (.inr rfl)), hb3.setCell (Nat.le_refl _) _⟩
                  case measure => simp [intOf]; omega
        · go_wp2_with (at_builtin; refine wpList_append_row _ rfl (.tmp 47) (.tmp 49) 22 rfl 9 i0 (.string ⟨#[]⟩) 16 Try.underlying22 HI.out.1 HI.out.2.1 HI.out.2.2.1 HI.out.2.2.2 rfl w.heap.size n q.length (q.map .string) (by simp) rfl (hrow.alloc _) ⟨wr.heap.size, 0, none⟩ 1 1 [.string (nth xs k)] rfl rfl (cell_one_new _ _ _) (fun u hu => by simp at hu; subst hu; rfl) (by unfold maxLen; omega) (by omega) ?_; intro g' cap' w2 hrow2 hgr hor hfit; obtain ⟨rfl, rfl⟩ := hfit (by omega); clear hor hfit)
          have hb2 : Below w.heap.size w w2 := (hb.alloc hb.size _).grown hgr (by simp; have := hb.size; omega) (fun j hj => by cases hj; exact Nat.le_refl _)
          rw [map_snoc, shift0] at hrow2
          clear hgr hrow hc
          go_loopw [7] (fun j w3 => ∃ (t : Nat) (y : ByteArray), m ≤ t ∧ t ≤ q.length ∧ j = .int .i64 t ∧ Row w3 w.heap.size 9 n ((q.take t ++ y :: q.drop t).map .string) ∧ Below w.heap.size w w3) (fun j _ => (intOf j).toNat)
          case atStart => exact ⟨q.length, nth xs k, hm, Nat.le_refl _, by go_num, hrow2, hb2⟩
          case round =>
            clear hrow2 hb2 hb
            obtain ⟨t, y, hmt, htq, rfl, hr3, hb3⟩ := hrel
            by_cases hgt : m < t
            · exact absurd hgt (by omega)
            · obtain rfl : m = t := by omega
              have hc2 := hr3.cell (map_get (i := m) (by rw [mid_length htq]; omega))
              have hf2 := hr3.frozen m
              have hr4 : Row (wr.setCell ⟨w.heap.size, m, none⟩ (.string (nth xs k))) w.heap.size 9 n ((q.take m ++ nth xs k :: q.drop m).map .string) := by
                have := hr3.set m (.string (nth xs k))
                rwa [← List.map_set, put_at htq] at this
              go_wp2
              go_roundw
              case rel => exact ⟨k + 1, q.take m ++ nth xs k :: q.drop m, by omega, by go_num, by rw [mid_length htq]; omega, by rw [mid_length htq], hr4, all_step hall.out (fun z hz => mid_mem (.inl hz)) (mid_mem (.inr rfl)), hb3.setCell (Nat.le_refl _) _⟩
              case measure => simp [intOf]; omega
    · go_wp2
      go_ret
      refine ⟨q, rfl, by omega, fun x hx => ?_, hrow, hb⟩
      apply Classical.byContradiction
      intro hno
      refine not_mem_of (x := x) (fun j hj e => hno ?_) hx
      rw [← e]
      exact hall.out j (by have := HN.out; omega)
end Go.Proofs.Qxb6600152a
