import Derived.Test.Qxb6001718aCount
import Derived.Deep.QuietTactic
import Derived.BigQuiet
namespace Go.Proofs.Qxb6001718a
open Go.RowKit

def Kept (w w' : World) : Prop := Grown w w' ∧ Below w.heap.size w w'
theorem Kept.refl (w : World) : Kept w w := ⟨Grown.refl _, Below.refl _ _⟩
theorem Kept.join {a b c : World} (h : Kept a b) (k : Kept b c) : Kept a c := ⟨Grown.join h.1 k.1, h.2.trans (k.2.mono h.2.size)⟩
theorem Kept.alloc {a b : World} (h : Kept a b) (c : Array Value) (t : TypeId) : Kept a (b.alloc (.cells c t)) := ⟨h.1.alloc c t, h.2.alloc h.2.size _⟩
theorem Kept.drewN {a b : World} (h : Kept a b) (n : Nat) : Kept a (b.drewN n) := ⟨h.1, ⟨h.2.os, h.2.tape, h.2.output, h.2.size, h.2.block⟩⟩

/-- '(v Value).Uint64()', the world written out -/
theorem uint64_at (kd i : Int) (s : ByteArray) (w : World) :
    Calls Try.prog 21 #[.agg #[.int .u8 kd, .int .i64 i, .string s]] w fun e w' => e = .returned (.int .u64 (IntKind.u64.wrap i)) ∧ w.alloc (.cells #[.int .u8 kd, .int .i64 i, .string s] 30) = w' := by
  go_enter Try.func21, Try.ntmps21
  go_wp2
  go_ret
  exact ⟨rfl, rfl⟩

theorem neg_mag (i : Int) (h : i < 0) (h' : -9223372036854775808 ≤ i) : (IntKind.u64.wrap (- IntKind.u64.wrap i) != 0) = true := by
  rw [wrap_u64, wrap_u64, bne_iff_ne]; omega

/-- 'exactOf(v)', v a negative integer of kind Int -/
theorem exactOf_neg (i : Int) (s : ByteArray) (h : i < 0) (w : World) :
    Calls Try.prog 18 #[.agg #[.int .u8 1, .int .i64 i, .string s]] w fun e w' => e = .returned (.agg #[.bool true, .int .u64 (IntKind.u64.wrap (- IntKind.u64.wrap i))]) ∧ Kept w w' := by
  go_enter Try.func18, Try.ntmps18
  go_wp2_with fail
  exact bodyPost_ret (v := .agg #[.bool true, .int .u64 (IntKind.u64.wrap (- IntKind.u64.wrap i))]) (by simp [results, Try.results18, go_sem]) rfl ⟨rfl, ((Kept.refl _).alloc _ _).alloc _ _⟩

theorem exactOf_else (kd i : Int) (s : ByteArray) (h : kd ≠ 1 ∨ 0 ≤ i) (w : World) :
    Calls Try.prog 18 #[.agg #[.int .u8 kd, .int .i64 i, .string s]] w fun e w' => e = .returned (.agg #[.bool false, .int .u64 (IntKind.u64.wrap i)]) ∧ Kept w w' := by
  by_cases hk : kd = 1
  · subst hk
    have h0 : 0 ≤ i := by omega
    clear h
    go_enter Try.func18, Try.ntmps18
    go_wp2_with fail
    refine (uint64_at _ _ _ _).mono ?_
    rintro e w' ⟨rfl, rfl⟩
    go_wp2
    exact bodyPost_ret (v := .agg #[.bool false, .int .u64 (IntKind.u64.wrap i)]) (by simp [results, Try.results18, go_sem]) rfl ⟨rfl, (((Kept.refl _).alloc _ _).alloc _ _).alloc _ _⟩
  · have hb : (kd == 1) = false := by simpa using hk
    clear h hk
    go_enter Try.func18, Try.ntmps18
    go_wp2_with fail
    refine (uint64_at _ _ _ _).mono ?_
    rintro e w' ⟨rfl, rfl⟩
    go_wp2
    exact bodyPost_ret (v := .agg #[.bool false, .int .u64 (IntKind.u64.wrap i)]) (by simp [results, Try.results18, go_sem]) rfl ⟨rfl, (((Kept.refl _).alloc _ _).alloc _ _).alloc _ _⟩

theorem zzExactOf_neg (i : Int) (s : ByteArray) (h : i < 0) (w : World) :
    Calls Try.prog 11 #[.agg #[.int .u8 1, .int .i64 i, .string s]] w fun e w' => e = .returned (.tuple #[.bool true, .int .u64 (IntKind.u64.wrap (- IntKind.u64.wrap i))]) ∧ Kept w w' := by
  go_enter Try.func11, Try.ntmps11
  go_wp2_with fail
  refine (exactOf_neg i s h _).mono ?_
  rintro e w' ⟨rfl, hk⟩
  go_wp2
  go_quiet (fail)
  go_wp2
  go_ret2
  exact ⟨rfl, ((Kept.join ((Kept.refl _).alloc _ _) hk).alloc _ _).drewN _⟩

theorem zzExactOf_else (kd i : Int) (s : ByteArray) (h : kd ≠ 1 ∨ 0 ≤ i) (w : World) :
    Calls Try.prog 11 #[.agg #[.int .u8 kd, .int .i64 i, .string s]] w fun e w' => e = .returned (.tuple #[.bool false, .int .u64 (IntKind.u64.wrap i)]) ∧ Kept w w' := by
  go_enter Try.func11, Try.ntmps11
  go_wp2_with fail
  refine (exactOf_else kd i s h _).mono ?_
  rintro e w' ⟨rfl, hk⟩
  go_wp2
  go_quiet (fail)
  go_wp2
  go_ret2
  exact ⟨rfl, ((Kept.join ((Kept.refl _).alloc _ _) hk).alloc _ _).drewN _⟩

/-- 'zzBytes_..(kind, i, s)': the bound on the length -/
theorem bytes_yes (kd i : Int) (s : ByteArray) (h : s.size ≤ 1048576) (w : World) :
    Calls Try.prog 10 #[.int .u8 kd, .int .i64 i, .string s] w fun e w' => e = .returned (.bool true) ∧ w = w' := by
  go_enter Try.func10, Try.ntmps10
  go_wp2
  go_ret
  exact ⟨rfl, rfl⟩
theorem bytes_no (kd i : Int) (s : ByteArray) (h : 1048576 < s.size) (hs : s.size ≤ 9223372036854775807) (w : World) :
    Calls Try.prog 10 #[.int .u8 kd, .int .i64 i, .string s] w fun e w' => e = .returned (.bool false) ∧ w = w' := by
  go_enter Try.func10, Try.ntmps10
  go_wp2
  go_ret
  exact ⟨rfl, rfl⟩
end Go.Proofs.Qxb6001718a
