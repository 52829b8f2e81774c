import Derived.Test.Qxb6600152aLeaf
namespace Go.Proofs.Qxb6600152a
open Go.RowKit

theorem below_drewN {B : Nat} {w w' : World} (h : Below B w w') (n : Nat) : Below B w (w'.drewN n) := ⟨h.os, h.tape, h.output, h.size, h.block⟩

/-- 'zzEqual(a, b)', both hold xs -/
theorem zzEqual_same (a b : Option Addr) (ca cb n : Nat) (xs : List ByteArray) (hn : xs.length = n) (hl : n ≤ 9223372036854775807) (w : World) (ha : Strs w a xs) (hb : Strs w b xs) :
    Calls Try.prog 12 #[.slice a n ca, .slice b n cb] w fun e w' => e = .returned (.bool true) ∧ Below w.heap.size w w' := by
  have HA : Hid (Strs w a xs) := ha
  have HB : Hid (Strs w b xs) := hb
  have HN : Hid (xs.length = n) := hn
  have hne : ((n : Int) != (n : Int)) = false := by simp
  clear ha hb hn
  go_enter Try.func12, Try.ntmps12
  go_wp2
  go_loopw [5] (fun i wr => ∃ k : Nat, k ≤ n ∧ i = .int .i64 k ∧ Below w.heap.size w wr) (fun i _ => n - (intOf i).toNat)
  case atStart => exact ⟨0, Nat.zero_le _, rfl, Below.refl _ _⟩
  case round =>
    obtain ⟨k, hk, rfl, hbl⟩ := hrel
    by_cases hlt : k < n
    · obtain ⟨b1, o1, rfl, hc1⟩ := HA.out.below hbl k (by rw [HN.out]; exact hlt)
      obtain ⟨b2, o2, rfl, hc2⟩ := HB.out.below hbl k (by rw [HN.out]; exact hlt)
      have hlt' : (k : Int) < (n : Int) := by omega
      go_wp2
      go_quiet (fail)
      go_wp2
      go_roundw
      case rel => exact ⟨k + 1, by omega, by go_num, below_drewN hbl _⟩
      case measure => simp [intOf]; omega
    · go_wp2
      go_ret
      exact ⟨rfl, hbl⟩

theorem sub_hit {x : ByteArray} {l1 l2 : List ByteArray} (h : List.Sublist (x :: l1) (x :: l2)) : List.Sublist l1 l2 := List.cons_sublist_cons.1 h
theorem sub_miss {x y : ByteArray} {l1 l2 : List ByteArray} (h : List.Sublist (x :: l1) (y :: l2)) (hne : ¬ y = x) : List.Sublist (x :: l1) l2 := by
  cases h with
  | cons _ h => exact h
  | cons_cons _ h => exact absurd rfl hne
theorem drop_nth {xs : List ByteArray} {k : Nat} (h : k < xs.length) : xs.drop k = nth xs k :: xs.drop (k + 1) := by
  rw [List.drop_eq_getElem_cons h]
  have := nth_get h
  rw [List.getElem?_eq_getElem h] at this
  rw [Option.some.inj this]

/-- 'zzSubsequence(a, b)', a is b with some elements left out -/
theorem zzSubsequence_yes (a b : Option Addr) (ca cb n m : Nat) (xs ys : List ByteArray) (hn : xs.length = n) (hm : ys.length = m) (hl : n ≤ 9223372036854775807) (hl2 : m ≤ 9223372036854775807) (hsub : List.Sublist xs ys)
    (w : World) (ha : Strs w a xs) (hb : Strs w b ys) :
    Calls Try.prog 15 #[.slice a n ca, .slice b m cb] w fun e w' => e = .returned (.bool true) ∧ Below w.heap.size w w' := by
  have HA : Hid (Strs w a xs) := ha
  have HB : Hid (Strs w b ys) := hb
  have HN : Hid (xs.length = n) := hn
  have HM : Hid (ys.length = m) := hm
  have HS : Hid (List.Sublist xs ys) := hsub
  clear ha hb hn hm hsub
  go_enter Try.func15, Try.ntmps15
  go_wp2
  go_loopw [5, 6] (fun jj ii wr => ∃ j i : Nat, j ≤ n ∧ i ≤ m ∧ jj = .int .i64 j ∧ ii = .int .i64 i ∧ Hid (List.Sublist (xs.drop j) (ys.drop i)) ∧ Below w.heap.size w wr) (fun _ ii _ => m - (intOf ii).toNat)
  case atStart => exact ⟨0, 0, Nat.zero_le _, Nat.zero_le _, rfl, rfl, HS.out, Below.refl _ _⟩
  case round =>
    obtain ⟨j, i, hj, hi, rfl, rfl, hsub, hbl⟩ := hrel
    by_cases hlt : i < m
    · by_cases hjt : j < n
      · obtain ⟨b1, o1, rfl, hc1⟩ := HA.out.below hbl j (by rw [HN.out]; exact hjt)
        obtain ⟨b2, o2, rfl, hc2⟩ := HB.out.below hbl i (by rw [HM.out]; exact hlt)
        have hlt' : (i : Int) < (m : Int) := by omega
        have hjt' : (j : Int) < (n : Int) := by omega
        by_cases he : nth ys i = nth xs j
        · have hb := str_is he
          have HE : Hid (nth ys i = nth xs j) := he
          clear he
          go_wp2
          go_quiet (fail)
          go_wp2
          go_roundw
          case rel => exact ⟨j + 1, i + 1, by omega, by omega, by go_num, by go_num, sub_hit (by
            have := hsub.out
            rwa [drop_nth (xs := xs) (by rw [HN.out]; exact hjt), drop_nth (xs := ys) (by rw [HM.out]; exact hlt), HE.out] at this), below_drewN hbl _⟩
          case measure => simp [intOf]; omega
        · have hb := str_not he
          have HE : Hid (¬ nth ys i = nth xs j) := he
          clear he
          go_wp2
          go_quiet (fail)
          go_wp2
          go_roundw
          case rel => exact ⟨j, i + 1, by omega, by omega, rfl, by go_num, (by
            have := hsub.out
            rw [drop_nth (xs := xs) (by rw [HN.out]; exact hjt), drop_nth (xs := ys) (by rw [HM.out]; exact hlt)] at this
            have h2 := sub_miss this HE.out
            rwa [← drop_nth (xs := xs) (by rw [HN.out]; exact hjt)] at h2), below_drewN hbl _⟩
          case measure => simp [intOf]; omega
      · have hje : ((j : Int) == (n : Int)) = true := by rw [beq_iff_eq]; omega
        go_wp2
        go_ret
        exact ⟨rfl, hbl⟩
    · have hjn : j = n := by
        have := hsub.out.length_le
        rw [List.length_drop, List.length_drop, HN.out, HM.out] at this
        omega
      have hje : ((j : Int) == (n : Int)) = true := by rw [beq_iff_eq]; omega
      clear hjn
      go_wp2
      go_ret
      exact ⟨rfl, hbl⟩
end Go.Proofs.Qxb6600152a
