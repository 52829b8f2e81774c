import Derived.Test.Qxb6600096aRows
import Derived.Test.Qxb6600096aShelf
import Derived.Test.Qxb6600096aPlain
import Derived.WalkKit
import Derived.ShutString
namespace Go.Proofs.Qxb6600096a
open Go.RowKit

theorem bytes_yes (s : ByteArray) (h : s.size ≤ 1048576) (w : World) :
    Calls Try.prog 14 #[.string s] w fun e w' => e = .returned (.bool true) ∧ w = w' := by
  go_enter Try.func14, Try.ntmps14
  go_wp2
  go_ret
  exact ⟨rfl, rfl⟩
theorem bytes_no (s : ByteArray) (h : 1048576 < s.size) (hs : s.size ≤ 9223372036854775807) (w : World) :
    Calls Try.prog 14 #[.string s] w fun e w' => e = .returned (.bool false) ∧ w = w' := by
  go_enter Try.func14, Try.ntmps14
  go_wp2
  go_ret
  exact ⟨rfl, rfl⟩

theorem drop_at (s : ByteArray) (k : Nat) (h : k < s.size) : s.data.toList.drop k = s[k] :: s.data.toList.drop (k + 1) := by
  rw [List.drop_eq_getElem_cons (by simpa using h)]; rfl
theorem size_list (s : ByteArray) : s.data.toList.length = s.size := by rw [Array.length_toList]; rfl
theorem byte_is {c : UInt8} (h : c = 92) : ((c.toNat : Int) == 92) = true := by subst h; decide
theorem byte_not {c : UInt8} (h : c ≠ 92) : ((c.toNat : Int) == 92) = false := by
  have h2 : c.toNat ≠ 92 := fun e => h (UInt8.toNat_inj.1 e)
  exact beq_eq_false_iff_ne.2 (by omega)

theorem ret_bool {a b : Bool} (h : a = b) : Ending.returned (.bool a) = .returned (.bool b) := by rw [h]

theorem wellFormed_any (s : ByteArray) (h : s.size ≤ 1048576) (w : World) :
    Calls Try.prog 12 #[.string s] w fun e w' => e = .returned (.bool (Plain.wf s.data.toList)) ∧ w = w' := by
  go_enter Try.func12, Try.ntmps12
  go_wp2
  go_loop [3] (fun i => ∃ k : Nat, k ≤ s.size ∧ i = .int .i64 k ∧ Hid (Plain.wf (s.data.toList.drop k) = Plain.wf s.data.toList)) (fun i => s.size - (intOf i).toNat)
  case atStart => exact ⟨0, Nat.zero_le _, rfl, rfl⟩
  case round =>
    obtain ⟨k, hk, rfl, hw⟩ := hrel
    by_cases hlt : k < s.size
    · have hd : Hid (s.data.toList.drop k = s[k] :: s.data.toList.drop (k + 1)) := drop_at s k hlt
      by_cases hc : s[k] = 92
      · have hb : ((s[k].toNat : Int) == 92) = true := byte_is hc
        have HC : Hid (s[k] = 92) := hc
        clear hc
        by_cases hl : k + 1 < s.size
        · have hd2 : Hid (s.data.toList.drop (k + 1) = s[k + 1] :: s.data.toList.drop (k + 2)) := drop_at s (k + 1) hl
          go_wp2
          go_round
          case rel => exact ⟨k + 2, by omega, by go_num, (show Plain.wf _ = _ by rw [← hw.out, hd.out, hd2.out, Plain.wf_bs HC.out])⟩
          case measure => simp [intOf]; omega
        · go_wp2
          go_ret
          exact ⟨ret_bool (by rw [← hw.out, hd.out, List.drop_eq_nil_of_le (by rw [size_list]; omega), Plain.wf_one _ HC.out]), rfl⟩
      · have hb : ((s[k].toNat : Int) == 92) = false := byte_not hc
        have HC : Hid (s[k] ≠ 92) := hc
        clear hc
        go_wp2
        go_round
        case rel => exact ⟨k + 1, by omega, by go_num, (show Plain.wf _ = _ by rw [← hw.out, hd.out, Plain.wf_other HC.out])⟩
        case measure => simp [intOf]; omega
    · go_wp2
      go_ret
      exact ⟨ret_bool (by rw [← hw.out, List.drop_eq_nil_of_le (by rw [size_list]; omega)]; rfl), rfl⟩

theorem not_mem_snoc (s : ByteArray) (k : Nat) (h : k < s.size) (hn : (92 : UInt8) ∉ s.data.toList.take k) (hc : s[k] ≠ 92) : (92 : UInt8) ∉ s.data.toList.take (k + 1) := by
  have e : s.data.toList.take (k + 1) = s.data.toList.take k ++ [s[k]] := by
    rw [List.take_succ_eq_append_getElem (by simpa using h)]; rfl
  rw [e]
  intro hm
  rcases List.mem_append.1 hm with h1 | h1
  · exact hn h1
  · exact hc (List.mem_singleton.1 h1).symm
theorem mem_at (s : ByteArray) (k : Nat) (h : k < s.size) (hc : s[k] = 92) : (92 : UInt8) ∈ s.data.toList := by
  have : s.data.toList[k]'(by simpa using h) ∈ s.data.toList := List.getElem_mem _
  have e : s.data.toList[k]'(by simpa using h) = s[k] := rfl
  rw [e, hc] at this
  exact this

def hasBS (s : ByteArray) : Bool := decide ((92 : UInt8) ∈ s.data.toList)

theorem hasByte_any (s : ByteArray) (h : s.size ≤ 1048576) (w : World) :
    Calls Try.prog 15 #[.string s, .int .u8 92] w fun e w' => e = .returned (.bool (hasBS s)) ∧ w = w' := by
  go_enter Try.func15, Try.ntmps15
  go_wp2
  go_loop [5] (fun i => ∃ k : Nat, k ≤ s.size ∧ i = .int .i64 k ∧ Hid ((92 : UInt8) ∉ s.data.toList.take k)) (fun i => s.size - (intOf i).toNat)
  case atStart => exact ⟨0, Nat.zero_le _, rfl, (show (92 : UInt8) ∉ _ by simp)⟩
  case round =>
    obtain ⟨k, hk, rfl, hw⟩ := hrel
    by_cases hlt : k < s.size
    · by_cases hc : s[k] = 92
      · have hb : ((s[k].toNat : Int) == 92) = true := byte_is hc
        have HC : Hid (s[k] = 92) := hc
        clear hc
        go_wp2
        go_ret
        exact ⟨ret_bool (decide_eq_true (mem_at s k hlt HC.out)).symm, rfl⟩
      · have hb : ((s[k].toNat : Int) == 92) = false := byte_not hc
        have HC : Hid (s[k] ≠ 92) := hc
        clear hc
        go_wp2
        go_round
        case rel => exact ⟨k + 1, by omega, by go_num, not_mem_snoc s k hlt hw.out HC.out⟩
        case measure => simp [intOf]; omega
    · go_wp2
      go_ret
      have hn : (92 : UInt8) ∉ s.data.toList := by
        have := hw.out
        rwa [List.take_of_length_le (by rw [size_list]; omega)] at this
      exact ⟨ret_bool (decide_eq_false hn).symm, rfl⟩

theorem cells_snoc (acc : List UInt8) (c : UInt8) : Lib.byteCells acc ++ [.int .u8 c.toNat] = Lib.byteCells (acc ++ [c]) := by simp [Lib.byteCells]

set_option maxHeartbeats 1000000 in
theorem unescape_any (s : ByteArray) (h : s.size ≤ 1048576) (hwf : Plain.wf s.data.toList = true) (w : World) :
    Calls Try.prog 33 #[.string s] w fun e w' => e = .returned (.string ⟨(Plain.un s.data.toList).toArray⟩) ∧ Below w.heap.size w w' := by
  have HW : Hid (Plain.wf s.data.toList = true) := hwf
  clear hwf
  go_enter Try.func33, Try.ntmps33
  go_wp2_with fail
  refine (Try.Builder_Grow_fresh w.heap.size w.heap.size s.size _ (Nat.le_refl _) (heap_alloc_new _ _) (by simp) (by omega)).mono ?_
  rintro e w1 ⟨rfl, hbd, hb1⟩
  go_wp2_with fail
  go_loopw [4] (fun i wr => ∃ (k : Nat) (acc : List UInt8), k ≤ s.size ∧ i = .int .i64 k ∧ acc.length ≤ k ∧ Hid (Plain.wf (s.data.toList.drop k) = true) ∧ Hid (acc ++ Plain.un (s.data.toList.drop k) = Plain.un s.data.toList) ∧
    Lib.BuilderAt 68 5 w.heap.size w.heap.size (.pointer (some ⟨w.heap.size, 0, none⟩)) (Lib.byteCells acc) wr ∧ Below w.heap.size w wr) (fun i _ => s.size - (intOf i).toNat)
  case atStart =>
    refine ⟨0, [], Nat.zero_le _, rfl, Nat.le_refl _, HW.out, rfl, hbd, ?_⟩
    exact ((Below.refl _ _).alloc (Nat.le_refl _) _).trans hb1
  case round =>
    obtain ⟨k, acc, hk, rfl, ha, hw, hu, hbl, hB⟩ := hrel
    clear hbd hb1
    by_cases hlt : k < s.size
    · have hd : Hid (s.data.toList.drop k = s[k] :: s.data.toList.drop (k + 1)) := drop_at s k hlt
      by_cases hc : s[k] = 92
      · have hb : ((s[k].toNat : Int) == 92) = true := byte_is hc
        have HC : Hid (s[k] = 92) := hc
        clear hc
        have hl : k + 1 < s.size := by
          apply Decidable.byContradiction
          intro hn
          have := hw.out
          rw [hd.out, List.drop_eq_nil_of_le (by rw [size_list]; omega), Plain.wf_one _ HC.out] at this
          cases this
        have hd2 : Hid (s.data.toList.drop (k + 1) = s[k + 1] :: s.data.toList.drop (k + 2)) := drop_at s (k + 1) hl
        have hu2 : (acc ++ [s[k + 1]]) ++ Plain.un (s.data.toList.drop (k + 2)) = Plain.un s.data.toList := by
          rw [← hu.out, hd.out, hd2.out, Plain.un_bs HC.out]; simp
        have hw2 : Plain.wf (s.data.toList.drop (k + 2)) = true := by
          have := hw.out
          rwa [hd.out, hd2.out, Plain.wf_bs HC.out] at this
        have HU : Hid ((acc ++ [s[k + 1]]) ++ Plain.un (s.data.toList.drop (k + 2)) = Plain.un s.data.toList) := hu2
        have HW2 : Hid (Plain.wf (s.data.toList.drop (k + 2)) = true) := hw2
        clear hu2 hw2
        go_wp2_with fail
        refine (Try.Builder_WriteByte w.heap.size w.heap.size (Lib.byteCells acc) _ _ (Or.inr hbl) (by rw [Lib.byteCells_length]; omega) hB.size).mono ?_
        rintro e w2 ⟨rfl, hbl2, hb2⟩
        rw [cells_snoc] at hbl2
        clear hbl
        go_wp2
        go_roundw
        case rel => exact ⟨k + 2, acc ++ [s[k + 1]], by omega, by go_num, by simp; omega, HW2, HU, hbl2, hB.trans hb2⟩
        case measure => simp [intOf]; omega
      · have hb : ((s[k].toNat : Int) == 92) = false := byte_not hc
        have HC : Hid (s[k] ≠ 92) := hc
        clear hc
        have hu2 : (acc ++ [s[k]]) ++ Plain.un (s.data.toList.drop (k + 1)) = Plain.un s.data.toList := by
          rw [← hu.out, hd.out, Plain.un_other HC.out]; simp
        have hw2 : Plain.wf (s.data.toList.drop (k + 1)) = true := by
          have := hw.out
          rwa [hd.out, Plain.wf_other HC.out] at this
        have HU : Hid ((acc ++ [s[k]]) ++ Plain.un (s.data.toList.drop (k + 1)) = Plain.un s.data.toList) := hu2
        have HW2 : Hid (Plain.wf (s.data.toList.drop (k + 1)) = true) := hw2
        clear hu2 hw2
        go_wp2_with fail
        refine (Try.Builder_WriteByte w.heap.size w.heap.size (Lib.byteCells acc) _ _ (Or.inr hbl) (by rw [Lib.byteCells_length]; omega) hB.size).mono ?_
        rintro e w2 ⟨rfl, hbl2, hb2⟩
        rw [cells_snoc] at hbl2
        clear hbl
        go_wp2
        go_roundw
        case rel => exact ⟨k + 1, acc ++ [s[k]], by omega, by go_num, by simp; omega, HW2, HU, hbl2, hB.trans hb2⟩
        case measure => simp [intOf]; omega
    · have hfin : acc = Plain.un s.data.toList := by
        have := hu.out
        rw [List.drop_eq_nil_of_le (by rw [size_list]; omega)] at this
        simpa [Plain.un] using this
      have HF : Hid (acc = Plain.un s.data.toList) := hfin
      clear hfin
      go_wp2_with fail
      refine (Try.Builder_String_any w.heap.size w.heap.size acc _ (Or.inr hbl) hB.size).mono ?_
      rintro e w2 ⟨rfl, hb2⟩
      go_wp2
      go_ret
      exact ⟨by rw [← HF.out]; rfl, hB.trans hb2⟩

/-- 'ZZUnescapeValue(raw)', raw well formed: what the law asks of the answer -/
theorem zzUnescape_any (s : ByteArray) (h : s.size ≤ 1048576) (hwf : Plain.wf s.data.toList = true) (w : World) :
    Calls Try.prog 13 #[.string s] w fun e w' => ∃ o : ByteArray, e = .returned (.string o) ∧ o.size ≤ s.size ∧ s.size ≤ 2 * o.size ∧ (hasBS s = true → o.size < s.size) ∧ (hasBS s = false → o = s) ∧ Below w.heap.size w w' := by
  have L := Plain.laws s.data.toList.length s.data.toList (Nat.le_refl _) hwf
  have HL : Hid ((Plain.un s.data.toList).length ≤ s.data.toList.length ∧ s.data.toList.length ≤ 2 * (Plain.un s.data.toList).length ∧ ((92 : UInt8) ∈ s.data.toList → (Plain.un s.data.toList).length < s.data.toList.length) ∧ ((92 : UInt8) ∉ s.data.toList → Plain.un s.data.toList = s.data.toList)) := L
  have HW : Hid (Plain.wf s.data.toList = true) := hwf
  clear L hwf
  go_enter Try.func13, Try.ntmps13
  go_wp2_with fail
  refine (unescape_any s h HW.out _).mono ?_
  rintro e w1 ⟨rfl, hb⟩
  go_wp2
  go_ret
  obtain ⟨h1, h2, h3, h4⟩ := HL.out
  rw [size_list] at h1 h2 h3
  have hs : (⟨(Plain.un s.data.toList).toArray⟩ : ByteArray).size = (Plain.un s.data.toList).length := size_of_list _
  refine ⟨_, rfl, by rw [hs]; exact h1, by rw [hs]; exact h2, fun hh => ?_, fun hh => ?_, hb⟩
  · rw [hs]; exact h3 (of_decide_eq_true hh)
  · rw [h4 (of_decide_eq_false hh)]
end Go.Proofs.Qxb6600096a
