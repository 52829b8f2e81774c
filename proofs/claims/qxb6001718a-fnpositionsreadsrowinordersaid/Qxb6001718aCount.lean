import Derived.Test.Qxb6001718aRows
import Derived.WalkKit
namespace Go.Proofs.Qxb6001718a
open Go.RowKit

theorem Grown.join {a b c : World} (h : Grown a b) (k : Grown b c) : Grown a c :=
  ⟨World.keptBut_trans h.1 (World.keptBut_mono (fun _ f => f.elim) k.1), fun x => (k.2.1 x).trans (h.2.1 x), Nat.le_trans h.2.2 k.2.2⟩

theorem wrap_u64 (i : Int) : IntKind.u64.wrap i = i % 18446744073709551616 := by
  simp [IntKind.wrap, IntKind.signed, IntKind.bits]
theorem wrap_u64_of {i : Int} (h0 : 0 ≤ i) (h1 : i ≤ 18446744073709551615) : IntKind.u64.wrap i = i := by rw [wrap_u64]; omega
theorem wrap_u64_back (u : Int) (h0 : 0 ≤ u) (h1 : u ≤ 18446744073709551615) : IntKind.u64.wrap (wrap64 u) = u := by
  rw [wrap_u64]; unfold wrap64; omega

/-- '(v Value).Uint64()' -/
theorem uint64_any (kd i : Int) (s : ByteArray) (w : World) :
    Calls Try.prog 21 #[.agg #[.int .u8 kd, .int .i64 i, .string s]] w fun e w' => e = .returned (.int .u64 (IntKind.u64.wrap i)) ∧ Grown w w' := by
  go_enter Try.func21, Try.ntmps21
  go_wp2
  go_ret
  exact ⟨rfl, (Grown.refl _).alloc _ _⟩

/-- 'countOf(v)', v a negative integer of kind Int -/
theorem countOf_neg (i : Int) (s : ByteArray) (h : i < 0) (w : World) :
    Calls Try.prog 19 #[.agg #[.int .u8 1, .int .i64 i, .string s]] w fun e w' => e = .returned (.int .u64 0) ∧ Grown w w' := by
  go_enter Try.func19, Try.ntmps19
  go_wp2_with fail
  go_ret
  exact ⟨rfl, (Grown.refl _).alloc _ _⟩

/-- 'countOf(v)', v of kind Int and not negative, or of another kind -/
theorem countOf_else (kd i : Int) (s : ByteArray) (h : kd ≠ 1 ∨ 0 ≤ i) (w : World) :
    Calls Try.prog 19 #[.agg #[.int .u8 kd, .int .i64 i, .string s]] w fun e w' => e = .returned (.int .u64 (IntKind.u64.wrap i)) ∧ Grown w w' := by
  by_cases hk : kd = 1
  · subst hk
    have h0 : 0 ≤ i := by omega
    clear h
    go_enter Try.func19, Try.ntmps19
    go_wp2_with fail
    refine (uint64_any _ _ _ _).mono ?_
    rintro e w' ⟨rfl, hg⟩
    go_wp2
    go_ret
    exact ⟨rfl, Grown.join ((Grown.refl _).alloc _ _) hg⟩
  · have hb : (kd == 1) = false := by simpa using hk
    clear h hk
    go_enter Try.func19, Try.ntmps19
    go_wp2_with fail
    refine (uint64_any _ _ _ _).mono ?_
    rintro e w' ⟨rfl, hg⟩
    go_wp2
    go_ret
    exact ⟨rfl, Grown.join ((Grown.refl _).alloc _ _) hg⟩

/-- 'ZZCountOf(v)' -/
theorem zzCountOf_neg (i : Int) (s : ByteArray) (h : i < 0) (w : World) :
    Calls Try.prog 12 #[.agg #[.int .u8 1, .int .i64 i, .string s]] w fun e w' => e = .returned (.int .u64 0) ∧ Grown w w' := by
  go_enter Try.func12, Try.ntmps12
  go_wp2_with fail
  refine (countOf_neg _ _ h _).mono ?_
  rintro e w' ⟨rfl, hg⟩
  go_wp2
  go_ret
  exact ⟨rfl, Grown.join ((Grown.refl _).alloc _ _) hg⟩

theorem zzCountOf_else (kd i : Int) (s : ByteArray) (c : Int) (h : kd ≠ 1 ∨ 0 ≤ i) (hc : IntKind.u64.wrap i = c) (w : World) :
    Calls Try.prog 12 #[.agg #[.int .u8 kd, .int .i64 i, .string s]] w fun e w' => e = .returned (.int .u64 c) ∧ Grown w w' := by
  subst hc
  go_enter Try.func12, Try.ntmps12
  go_wp2_with fail
  refine (countOf_else _ _ _ h _).mono ?_
  rintro e w' ⟨rfl, hg⟩
  go_wp2
  go_ret
  exact ⟨rfl, Grown.join ((Grown.refl _).alloc _ _) hg⟩

/-- 'IntValue(n)' -/
theorem intValue_any (i : Int) (w : World) :
    Calls Try.prog 14 #[.int .i64 i] w fun e w' => e = .returned (.agg #[.int .u8 1, .int .i64 i, .string ⟨#[]⟩]) ∧ Grown w w' := by
  go_enter Try.func14, Try.ntmps14
  go_wp2
  exact bodyPost_ret (v := .agg #[.int .u8 1, .int .i64 i, .string ⟨#[]⟩]) (by simp [results, Try.results14, go_sem]) rfl ⟨rfl, (Grown.refl _).alloc _ _⟩

/-- 'zzUintVal(u)' -/
theorem uintVal_any (u : Int) (h0 : 0 ≤ u) (h1 : u ≤ 18446744073709551615) (w : World) :
    Calls Try.prog 16 #[.int .u64 u] w fun e w' => ∃ kd i : Int, e = .returned (.agg #[.int .u8 kd, .int .i64 i, .string ⟨#[]⟩]) ∧ (kd ≠ 1 ∨ 0 ≤ i) ∧ IntKind.u64.wrap i = u ∧ Grown w w' := by
  by_cases h : u ≤ 9223372036854775807
  · have hb : Hid (IntKind.u64.wrap u = u) := wrap_u64_of h0 h1
    go_enter Try.func16, Try.ntmps16
    go_wp2
    exact bodyPost_ret (v := .agg #[.int .u8 1, .int .i64 u, .string ⟨#[]⟩]) (by simp [results, Try.results16, go_sem]) rfl ⟨1, u, rfl, .inr h0, hb.out, (Grown.refl _).alloc _ _⟩
  · have hb : Hid (IntKind.u64.wrap (wrap64 u) = u) := wrap_u64_back u h0 h1
    have h' : 9223372036854775807 < u := by omega
    go_enter Try.func16, Try.ntmps16
    go_wp2
    exact bodyPost_ret (v := .agg #[.int .u8 3, .int .i64 (wrap64 u), .string ⟨#[]⟩]) (by simp [results, Try.results16, go_sem]) rfl ⟨3, wrap64 u, rfl, .inl (by decide), hb.out, (Grown.refl _).alloc _ _⟩
end Go.Proofs.Qxb6001718a
