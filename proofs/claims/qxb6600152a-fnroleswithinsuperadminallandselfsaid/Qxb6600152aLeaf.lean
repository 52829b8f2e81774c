import Derived.Test.Qxb6600152aRows
import Derived.Test.Qxb6600152aMem
import Derived.Deep.QuietTactic
import Derived.BigQuiet
namespace Go.Proofs.Qxb6600152a
open Go.RowKit

/-- the first place of x in xs, or -1 -/
def IsIdx (xs : List ByteArray) (x : ByteArray) (r : Int) : Prop :=
  (r = -1 ∧ x ∉ xs) ∨ ∃ k : Nat, k < xs.length ∧ r = k ∧ nth xs k = x ∧ ∀ j, j < k → nth xs j ≠ x

theorem not_mem_of {xs : List ByteArray} {x : ByteArray} (h : ∀ j, j < xs.length → nth xs j ≠ x) : x ∉ xs := by
  intro hm
  obtain ⟨i, hi, he⟩ := List.mem_iff_getElem.1 hm
  refine h i hi ?_
  have := nth_get hi
  rw [List.getElem?_eq_getElem hi] at this
  rw [← he]
  exact (Option.some.inj this).symm

theorem str_is {a b : ByteArray} (h : a = b) : (a.toList == b.toList) = true := by subst h; simp
theorem str_not {a b : ByteArray} (h : ¬ a = b) : (a.toList == b.toList) = false := by
  rw [beq_eq_false_iff_ne, ByteArray.toList_eq, ByteArray.toList_eq]
  exact fun e => h (WideShapes.bytes_inj e)

theorem no_step {xs : List ByteArray} {x : ByteArray} {k : Nat} (h : ∀ j, j < k → nth xs j ≠ x) (hk : ¬ nth xs k = x) : ∀ j, j < k + 1 → nth xs j ≠ x := by
  intro j hj
  by_cases e : j = k
  · subst e; exact hk
  · exact h j (by omega)

/-- 'zzIndex(xs, x)' -/
theorem zzIndex_any (a : Option Addr) (cap n : Nat) (xs : List ByteArray) (x : ByteArray) (hn : xs.length = n) (hl : n ≤ 9223372036854775807) (w : World) (hx : Strs w a xs) :
    Calls Try.prog 16 #[.slice a n cap, .string x] w fun e w' => ∃ r : Int, e = .returned (.int .i64 r) ∧ IsIdx xs x r ∧ w = w' := by
  have HX : Hid (Strs w a xs) := hx
  have HN : Hid (xs.length = n) := hn
  clear hx hn
  go_enter Try.func16, Try.ntmps16
  go_wp2
  go_loop [5] (fun i => ∃ k : Nat, k ≤ n ∧ i = .int .i64 k ∧ Hid (∀ j, j < k → nth xs j ≠ x)) (fun i => n - (intOf i).toNat)
  case atStart => exact ⟨0, Nat.zero_le _, rfl, (fun j hj => absurd hj (Nat.not_lt_zero _))⟩
  case round =>
    obtain ⟨k, hk, rfl, hno⟩ := hrel
    by_cases hlt : k < n
    · obtain ⟨b, off, rfl, hc⟩ := HX.out k (by rw [HN.out]; exact hlt)
      by_cases he : nth xs k = x
      · have hb := str_is he
        have HE : Hid (nth xs k = x) := he
        clear he
        go_wp2
        go_ret
        exact ⟨_, rfl, .inr ⟨k, by rw [HN.out]; exact hlt, rfl, HE.out, hno.out⟩, rfl⟩
      · have hb := str_not he
        have HE : Hid (¬ nth xs k = x) := he
        clear he
        go_wp2
        go_round
        case rel => exact ⟨k + 1, by omega, by go_num, no_step hno.out HE.out⟩
        case measure => simp [intOf]; omega
    · go_wp2
      go_ret
      exact ⟨_, rfl, .inl ⟨rfl, not_mem_of (by rw [HN.out]; exact fun j hj => hno.out j (by omega))⟩, rfl⟩

/-- 'slices.Index(xs, x)' -/
theorem index_any (a : Option Addr) (cap n : Nat) (xs : List ByteArray) (x : ByteArray) (hn : xs.length = n) (hl : n ≤ 9223372036854775807) (w : World) (hx : Strs w a xs) :
    Calls Try.prog 28 #[.slice a n cap, .string x] w fun e w' => ∃ r : Int, e = .returned (.int .i64 r) ∧ IsIdx xs x r ∧ w = w' := by
  have HX : Hid (Strs w a xs) := hx
  have HN : Hid (xs.length = n) := hn
  clear hx hn
  go_enter Try.func28, Try.ntmps28
  go_wp2
  go_loop [8] (fun i => ∃ k : Nat, k ≤ n ∧ i = .int .i64 k ∧ Hid (∀ j, j < k → nth xs j ≠ x)) (fun i => n - (intOf i).toNat)
  case atStart => exact ⟨0, Nat.zero_le _, rfl, (fun j hj => absurd hj (Nat.not_lt_zero _))⟩
  case round =>
    obtain ⟨k, hk, rfl, hno⟩ := hrel
    by_cases hlt : k < n
    · obtain ⟨b, off, rfl, hc⟩ := HX.out k (by rw [HN.out]; exact hlt)
      by_cases he : x = nth xs k
      · have hb := str_is he
        have HE : Hid (x = nth xs k) := he
        clear he
        go_wp2
        go_ret
        exact ⟨_, rfl, .inr ⟨k, by rw [HN.out]; exact hlt, rfl, HE.out.symm, hno.out⟩, rfl⟩
      · have hb := str_not he
        have HE : Hid (¬ x = nth xs k) := he
        clear he
        go_wp2
        go_round
        case rel => exact ⟨k + 1, by omega, by go_num, no_step hno.out (fun e => HE.out e.symm)⟩
        case measure => simp [intOf]; omega
    · go_wp2
      go_ret
      exact ⟨_, rfl, .inl ⟨rfl, not_mem_of (by rw [HN.out]; exact fun j hj => hno.out j (by omega))⟩, rfl⟩

/-- 'slices.Contains(xs, x)' -/
theorem contains_yes (a : Option Addr) (cap n : Nat) (xs : List ByteArray) (x : ByteArray) (hn : xs.length = n) (hl : n ≤ 9223372036854775807) (hm : x ∈ xs) (w : World) (hx : Strs w a xs) :
    Calls Try.prog 26 #[.slice a n cap, .string x] w fun e w' => e = .returned (.bool true) ∧ w = w' := by
  go_enter Try.func26, Try.ntmps26
  go_wp2_with fail
  refine (index_any a cap n xs x hn hl _ hx).mono ?_
  rintro e w' ⟨r, rfl, hr, rfl⟩
  have hr0 : 0 ≤ r := by
    rcases hr with ⟨_, h⟩ | ⟨k, _, rfl, _⟩
    · exact absurd hm h
    · omega
  clear hr hn hx hm
  go_wp2
  go_ret
  exact ⟨rfl, rfl⟩
theorem contains_no (a : Option Addr) (cap n : Nat) (xs : List ByteArray) (x : ByteArray) (hn : xs.length = n) (hl : n ≤ 9223372036854775807) (hm : x ∉ xs) (w : World) (hx : Strs w a xs) :
    Calls Try.prog 26 #[.slice a n cap, .string x] w fun e w' => e = .returned (.bool false) ∧ w = w' := by
  go_enter Try.func26, Try.ntmps26
  go_wp2_with fail
  refine (index_any a cap n xs x hn hl _ hx).mono ?_
  rintro e w' ⟨r, rfl, hr, rfl⟩
  have hr0 : r < 0 := by
    rcases hr with ⟨h, _⟩ | ⟨k, hk, rfl, he, _⟩
    · omega
    · exact absurd (he ▸ nth_mem hk) hm
  have hr1 : decide (0 ≤ r) = false := decide_eq_false (by omega)
  clear hr hn hx hm
  go_wp2
  go_ret
  exact ⟨rfl, rfl⟩

/-- the closure of RolesWithin: 'func(p string) bool { return !slices.Contains(held, p) }' -/
theorem closure_yes (hb : Nat) (a : Option Addr) (cap n : Nat) (xs : List ByteArray) (x : ByteArray) (hn : xs.length = n) (hl : n ≤ 9223372036854775807) (hm : x ∈ xs) (w : World) (hx : Strs w a xs)
    (hh : w.cell? ⟨hb, 0, none⟩ = some (.slice a n cap)) :
    Calls Try.prog 25 #[.string x, .pointer (some ⟨hb, 0, none⟩)] w fun e w' => e = .returned (.bool false) ∧ w = w' := by
  go_enter Try.func25, Try.ntmps25
  go_wp2_with fail
  refine (contains_yes a cap n xs x hn hl hm _ hx).mono ?_
  rintro e w' ⟨rfl, rfl⟩
  go_wp2
  go_ret
  exact ⟨rfl, rfl⟩
theorem closure_no (hb : Nat) (a : Option Addr) (cap n : Nat) (xs : List ByteArray) (x : ByteArray) (hn : xs.length = n) (hl : n ≤ 9223372036854775807) (hm : x ∉ xs) (w : World) (hx : Strs w a xs)
    (hh : w.cell? ⟨hb, 0, none⟩ = some (.slice a n cap)) :
    Calls Try.prog 25 #[.string x, .pointer (some ⟨hb, 0, none⟩)] w fun e w' => e = .returned (.bool true) ∧ w = w' := by
  go_enter Try.func25, Try.ntmps25
  go_wp2_with fail
  refine (contains_no a cap n xs x hn hl hm _ hx).mono ?_
  rintro e w' ⟨rfl, rfl⟩
  go_wp2
  go_ret
  exact ⟨rfl, rfl⟩

/-- 'slices.IndexFunc(ps, closure)' -/
theorem indexFunc_any (hb : Nat) (a : Option Addr) (cap n : Nat) (xs : List ByteArray) (hn : xs.length = n) (hl : n ≤ 9223372036854775807)
    (pa : Option Addr) (pcap pn : Nat) (ps : List ByteArray) (hpn : ps.length = pn) (hpl : pn ≤ 9223372036854775807) (w : World) (hx : Strs w a xs) (hp : Strs w pa ps)
    (hh : w.cell? ⟨hb, 0, none⟩ = some (.slice a n cap)) :
    Calls Try.prog 27 #[.slice pa pn pcap, .func (Fn.func 25) #[] #[.pointer (some ⟨hb, 0, none⟩)]] w fun e w' => ∃ r : Int, e = .returned (.int .i64 r) ∧ ((0 ≤ r ∧ ∃ p ∈ ps, p ∉ xs) ∨ (r < 0 ∧ ∀ p ∈ ps, p ∈ xs)) ∧ w = w' := by
  have HX : Hid (Strs w a xs) := hx
  have HN : Hid (xs.length = n) := hn
  have HP : Hid (Strs w pa ps) := hp
  have HPN : Hid (ps.length = pn) := hpn
  have HH : Hid (w.cell? ⟨hb, 0, none⟩ = some (.slice a n cap)) := hh
  clear hx hn hp hpn hh
  go_enter Try.func27, Try.ntmps27
  go_wp2
  go_loop [8] (fun i => ∃ k : Nat, k ≤ pn ∧ i = .int .i64 k ∧ Hid (∀ j, j < k → nth ps j ∈ xs)) (fun i => pn - (intOf i).toNat)
  case atStart => exact ⟨0, Nat.zero_le _, rfl, (fun j hj => absurd hj (Nat.not_lt_zero _))⟩
  case round =>
    obtain ⟨k, hk, rfl, hall⟩ := hrel
    by_cases hlt : k < pn
    · obtain ⟨b, off, rfl, hc⟩ := HP.out k (by rw [HPN.out]; exact hlt)
      by_cases he : nth ps k ∈ xs
      · have HE : Hid (nth ps k ∈ xs) := he
        clear he
        go_wp2_with fail
        refine (closure_yes hb a cap n xs _ HN.out hl HE.out _ HX.out HH.out).mono ?_
        rintro e w' ⟨rfl, rfl⟩
        go_wp2
        go_round
        case rel => exact ⟨k + 1, by omega, by go_num, (fun j hj => by
          by_cases e : j = k
          · subst e; exact HE.out
          · exact hall.out j (by omega))⟩
        case measure => simp [intOf]; omega
      · have HE : Hid (nth ps k ∉ xs) := he
        clear he
        go_wp2_with fail
        refine (closure_no hb a cap n xs _ HN.out hl HE.out _ HX.out HH.out).mono ?_
        rintro e w' ⟨rfl, rfl⟩
        go_wp2
        go_ret
        exact ⟨_, rfl, .inl ⟨by omega, _, nth_mem (by rw [HPN.out]; exact hlt), HE.out⟩, rfl⟩
    · go_wp2
      go_ret
      refine ⟨_, rfl, .inr ⟨by omega, fun p hp => ?_⟩, rfl⟩
      apply Classical.byContradiction
      intro hno
      refine not_mem_of (x := p) (fun j hj e => hno ?_) hp
      rw [← e]
      exact hall.out j (by have := HPN.out; omega)

/-- 'slices.ContainsFunc(ps, closure)' -/
theorem containsFunc_any (hb : Nat) (a : Option Addr) (cap n : Nat) (xs : List ByteArray) (hn : xs.length = n) (hl : n ≤ 9223372036854775807)
    (pa : Option Addr) (pcap pn : Nat) (ps : List ByteArray) (hpn : ps.length = pn) (hpl : pn ≤ 9223372036854775807) (w : World) (hx : Strs w a xs) (hp : Strs w pa ps)
    (hh : w.cell? ⟨hb, 0, none⟩ = some (.slice a n cap)) :
    Calls Try.prog 24 #[.slice pa pn pcap, .func (Fn.func 25) #[] #[.pointer (some ⟨hb, 0, none⟩)]] w fun e w' => ∃ b : Bool, e = .returned (.bool b) ∧ (b = false ↔ ∀ p ∈ ps, p ∈ xs) ∧ w = w' := by
  go_enter Try.func24, Try.ntmps24
  go_wp2_with fail
  refine (indexFunc_any hb a cap n xs hn hl pa pcap pn ps hpn hpl _ hx hp hh).mono ?_
  rintro e w' ⟨r, rfl, hr, rfl⟩
  clear hx hp hh hn hpn
  go_wp2
  go_ret
  refine ⟨_, rfl, ?_, rfl⟩
  rcases hr with ⟨h0, p, hp, hn⟩ | ⟨h0, h⟩
  · simp only [decide_eq_false_iff_not]
    exact ⟨fun h => absurd h0 h, fun h => absurd (h p hp) hn⟩
  · simp only [decide_eq_false_iff_not]
    exact ⟨fun _ => h, fun _ => by omega⟩
end Go.Proofs.Qxb6600152a
