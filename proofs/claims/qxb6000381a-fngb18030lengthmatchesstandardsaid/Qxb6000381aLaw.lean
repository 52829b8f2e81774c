import Derived.Test.Qxb6000381aStd
namespace Go.Proofs.Qxb6000381a
open Go.RowKit

theorem len_any (g n : Nat) (f : Nat → Int) (hn : 1 ≤ n) (hl : n ≤ 1048576) (hf : ∀ i, 0 ≤ f i ∧ f i ≤ 255) (w : World) (hr : w.rowIs g 5 n (fun i => .int .u8 (f i))) :
    Calls Try.prog 18 #[.slice (some ⟨g, 0, none⟩) n n] w (PS n (f 0) (f 1) (f 2) (f 3) w) := by
  by_cases h4 : 4 ≤ n
  · exact len_4 g n _ _ _ _ h4 hl (hf 0) (hf 1) (hf 2) (hf 3) w (hr.cell (by omega)) (hr.cell (by omega)) (hr.cell (by omega)) (hr.cell (by omega))
  by_cases h2 : 2 ≤ n
  · exact len_2 g n _ _ _ _ h2 (by omega) (hf 0) (hf 1) (hf 2) (hf 3) w (hr.cell (by omega)) (hr.cell (by omega))
  · exact len_1 g n _ _ _ _ (by omega) (hf 0) (hf 1) (hf 2) (hf 3) w (hr.cell (by omega))

theorem std_any (g n : Nat) (f : Nat → Int) (hn : 1 ≤ n) (hl : n ≤ 1048576) (hf : ∀ i, 0 ≤ f i ∧ f i ≤ 255) (w : World) (hr : w.rowIs g 5 n (fun i => .int .u8 (f i))) :
    Calls Try.prog 10 #[.slice (some ⟨g, 0, none⟩) n n] w (PS n (f 0) (f 1) (f 2) (f 3) w) := by
  by_cases h4 : 4 ≤ n
  · exact std_4 g n _ _ _ _ h4 hl (hf 0) (hf 1) (hf 2) (hf 3) w (hr.cell (by omega)) (hr.cell (by omega)) (hr.cell (by omega)) (hr.cell (by omega))
  by_cases h2 : 2 ≤ n
  · exact std_2 g n _ _ _ _ h2 (by omega) (hf 0) (hf 1) (hf 2) (hf 3) w (hr.cell (by omega)) (hr.cell (by omega))
  · exact std_1 g n _ _ _ _ (by omega) (hf 0) (hf 1) (hf 2) (hf 3) w (hr.cell (by omega))

theorem zzlen_any (g n : Nat) (f : Nat → Int) (hn : 1 ≤ n) (hl : n ≤ 1048576) (hf : ∀ i, 0 ≤ f i ∧ f i ≤ 255) (w : World) (hr : w.rowIs g 5 n (fun i => .int .u8 (f i))) :
    Calls Try.prog 9 #[.slice (some ⟨g, 0, none⟩) n n] w (PS n (f 0) (f 1) (f 2) (f 3) w) := by
  have HF : Hid (∀ i, 0 ≤ f i ∧ f i ≤ 255) := hf
  clear hf
  go_enter Try.func9, Try.ntmps9
  go_wp2_with fail
  refine (len_any g n f hn hl HF.out _ hr).mono ?_
  rintro e w' ⟨r, rfl, hs, rfl⟩
  go_wp2
  go_ret
  exact PS.mk hs

theorem law_in (b off n cap : Nat) (f : Nat → Int) (hn : 1 ≤ n) (hl : n ≤ 1048576) (hf : ∀ i, 0 ≤ f i ∧ f i ≤ 255) (w : World) (hb : b < w.heap.size) (hc : ∀ i, i < n → w.cell? ⟨b, off + i, none⟩ = some (.int .u8 (f i))) :
    Calls Try.prog 3 #[.slice (some ⟨b, off, none⟩) n cap] w fun e w' => e = .returned (.bool true) ∧ Below w.heap.size w w' := by
  have HF : Hid (∀ i, 0 ≤ f i ∧ f i ≤ 255) := hf
  have HC : Hid (∀ i, i < n → w.cell? ⟨b, off + i, none⟩ = some (.int .u8 (f i))) := hc
  clear hf hc
  have h0 : ((n : Int) == 0) = false := beq_eq_false_iff_ne.2 (by omega)
  go_enter Try.func3, Try.ntmps3
  go_wp2_with fail
  refine (bytes_yes _ n cap hl _).mono ?_
  rintro e w' ⟨rfl, rfl⟩
  go_wp2_with fail
  refine (clone_any b off n cap f hl _ hb HC.out).mono ?_
  rintro e w1 ⟨rfl, hr, hb1⟩
  have HR : Hid (w1.rowIs w.heap.size 5 n (fun i => .int .u8 (f i))) := hr
  clear hr
  go_wp2_with fail
  refine (zzlen_any w.heap.size n f hn hl HF.out _ HR.out).mono ?_
  rintro e w2 ⟨r, rfl, hs1, rfl⟩
  have HS1 : Hid (Spec n (f 0) (f 1) (f 2) (f 3) r) := hs1
  clear hs1
  go_wp2_with fail
  refine (std_any w.heap.size n f hn hl HF.out _ HR.out).mono ?_
  rintro e w3 ⟨s, rfl, hs2, rfl⟩
  have hrs : r = s := HS1.out.one hs2
  subst hrs
  clear hs2
  go_wp2
  go_ret
  exact ⟨by simp, hb1⟩

theorem law_zero (a : Option Addr) (cap : Nat) (w : World) :
    Calls Try.prog 3 #[.slice a 0 cap] w fun e w' => e = .returned (.bool true) ∧ Below w.heap.size w w' := by
  go_enter Try.func3, Try.ntmps3
  go_wp2_with fail
  refine (bytes_yes _ 0 cap (by omega) _).mono ?_
  rintro e w' ⟨rfl, rfl⟩
  go_wp2
  go_ret
  exact ⟨rfl, Below.refl _ _⟩

theorem law_long (a : Option Addr) (n cap : Nat) (h : 1048576 < n) (hs : n ≤ 9223372036854775807) (w : World) :
    Calls Try.prog 3 #[.slice a n cap] w fun e w' => e = .returned (.bool true) ∧ Below w.heap.size w w' := by
  go_enter Try.func3, Try.ntmps3
  go_wp2_with fail
  refine (bytes_no _ n cap h hs _).mono ?_
  rintro e w' ⟨rfl, rfl⟩
  go_wp2
  go_ret
  exact ⟨rfl, Below.refl _ _⟩
end Go.Proofs.Qxb6000381a
