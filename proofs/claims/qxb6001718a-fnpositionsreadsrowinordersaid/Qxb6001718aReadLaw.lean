import Derived.Test.Qxb6001718aRead
import Derived.Lib.Builder
namespace Go.Proofs.Qxb6001718a
open Go.RowKit

theorem law_out (a : Option Addr) (len cap : Nat) (k : Int) (hl : len ≤ 9223372036854775807) (h : 65536 < len ∨ k < 0 ∨ (len : Int) < k) (w : World) :
    Calls Try.prog 6 #[.slice a len cap, .int .i64 k] w fun e w' => e = .returned (.bool true) ∧ Below w.heap.size w w' := by
  by_cases h1 : 1048576 < len
  · go_enter Try.func6, Try.ntmps6
    go_wp2_with fail
    refine (bytesNo a len cap k h1 hl _).mono ?_
    rintro e w' ⟨rfl, rfl⟩
    go_wp2
    go_ret
    exact ⟨rfl, Below.refl _ _⟩
  by_cases h2 : 65536 < len
  · clear h
    go_enter Try.func6, Try.ntmps6
    go_wp2_with fail
    refine (bytesOk a len cap k (by omega) _).mono ?_
    rintro e w' ⟨rfl, rfl⟩
    go_wp2
    go_ret
    exact ⟨rfl, Below.refl _ _⟩
  by_cases h3 : k < 0
  · clear h
    go_enter Try.func6, Try.ntmps6
    go_wp2_with fail
    refine (bytesOk a len cap k (by omega) _).mono ?_
    rintro e w' ⟨rfl, rfl⟩
    go_wp2
    go_ret
    exact ⟨rfl, Below.refl _ _⟩
  have h4 : (len : Int) < k := by omega
  clear h
  go_enter Try.func6, Try.ntmps6
  go_wp2_with fail
  refine (bytesOk a len cap k (by omega) _).mono ?_
  rintro e w' ⟨rfl, rfl⟩
  go_wp2
  go_ret
  exact ⟨rfl, Below.refl _ _⟩

theorem ptr_same (x : Addr) (w : World) : (binOp .neq 40 (.pointer (some x)) (.pointer (some x))).run Try.prog w = .ok (.bool false) w := by
  obtain ⟨i, hi, -⟩ := Option.map_eq_some_iff.1 info30
  exact Lib.run_neq_ptr_same w x Try.underlying40 hi

theorem intValue_below (i : Int) (w : World) :
    Calls Try.prog 14 #[.int .i64 i] w fun e w' => e = .returned (.agg #[.int .u8 1, .int .i64 i, .string ⟨#[]⟩]) ∧ Below w.heap.size w w' :=
  (intValue_at i w).mono fun _ _ ⟨he, hw⟩ => ⟨he, hw ▸ (Below.refl _ _).alloc (Nat.le_refl _) _⟩

set_option maxHeartbeats 1000000 in
theorem law_in (a : Option Addr) (n cap k : Nat) (f : Nat → Int) (hn : n ≤ 65536) (hk : k ≤ n) (w : World)
    (hcells : ∀ i, i < n → ∃ b off, a = some ⟨b, off, none⟩ ∧ w.cell? ⟨b, off + i, none⟩ = some (.int .i64 (f i)) ∧ b < w.heap.size) :
    Calls Try.prog 6 #[.slice a n cap, .int .i64 k] w fun e w' => e = .returned (.bool true) ∧ Below w.heap.size w w' := by
  have hmk := fun w => run_make30 n hn w
  have hd1 : decide ((k : Int) < 0) = false := decide_eq_false (by omega)
  have hd2 : decide (n < k) = false := decide_eq_false (by omega)
  have hd3 : decide ((65536 : Int) < (n : Int)) = false := decide_eq_false (by omega)
  have HC : Hid (∀ i, i < n → ∃ b off, a = some ⟨b, off, none⟩ ∧ w.cell? ⟨b, off + i, none⟩ = some (.int .i64 (f i)) ∧ b < w.heap.size) := hcells
  clear hcells
  go_enter Try.func6, Try.ntmps6
  go_wp2_with fail
  refine (bytesOk a n cap k (by omega) _).mono ?_
  rintro e w' ⟨rfl, rfl⟩
  go_wp2
  go_loopw [6] (fun i wr => ∃ m : Nat, m ≤ n ∧ i = .int .i64 m ∧ wr.rowIs w.heap.size 30 (n * 3) (upTo f m) ∧ Below w.heap.size w wr ∧ w.heap.size < wr.heap.size) (fun i _ => n - (intOf i).toNat)
  case atStart => exact ⟨0, Nat.zero_le _, rfl, row_start w _ n, (Below.refl _ _).alloc (Nat.le_refl _) _, by simp⟩
  case round =>
    obtain ⟨m, hm, rfl, hrow, hb, hsz⟩ := hrel
    clear hmk
    by_cases hlt : m < n
    · obtain ⟨b, off, rfl, hc, hbl⟩ := HC.out m hlt
      have hc' : wr.cell? ⟨b, off + m, none⟩ = some (.int .i64 (f m)) := (hb.cell (p := ⟨b, off + m, none⟩) hbl).trans hc
      go_wp2_with fail
      refine (intValue_below _ _).mono ?_
      rintro e w1 ⟨rfl, hb1⟩
      have hra := hrow.of_block (hb1.block _ hsz)
      have hd0 := hra.cell (i := m * 3) (by omega)
      have hd1 := hra.cell (i := m * 3 + 1) (by omega)
      have hd2 := hra.cell (i := m * 3 + 2) (by omega)
      have hf0 := hra.frozen (m * 3)
      have hf1 := hra.frozen (m * 3 + 1)
      have hf2 := hra.frozen (m * 3 + 2)
      have hstep := row_step f hra
      have hs1 := hb1.size
      have hb' := (((hb.trans (hb1.mono (Nat.le_of_lt hsz))).setCell (p := ⟨w.heap.size, m * 3, none⟩) (Nat.le_refl _) (.int .u8 1)).setCell (p := ⟨w.heap.size, m * 3 + 1, none⟩) (Nat.le_refl _) (.int .i64 (f m))).setCell (p := ⟨w.heap.size, m * 3 + 2, none⟩) (Nat.le_refl _) (.string ⟨#[]⟩)
      go_wp2
      go_roundw
      case rel =>
        have hz : w.heap.size < (((w1.setCell ⟨w.heap.size, m * 3, none⟩ (.int .u8 1)).setCell ⟨w.heap.size, m * 3 + 1, none⟩ (.int .i64 (f m))).setCell ⟨w.heap.size, m * 3 + 2, none⟩ (.string ⟨#[]⟩)).heap.size := by simp [World.setCell]; omega
        exact ⟨m + 1, by omega, by go_num, hstep, hb', hz⟩
      case measure => simp [intOf]; omega
    · obtain rfl : m = n := by omega
      have hrow' := row_end hrow
      go_wp2_with fail
      refine (zzPositions_any k (by omega) _).mono ?_
      rintro e w1 ⟨rfl, hC, hs1, -, hb1⟩
      go_wp2_with fail
      refine (zzRowRead_any w.heap.size wr.heap.size m k f hk hn _ (hrow'.of_block (hb1.block _ hsz)) hC).mono ?_
      rintro e w2 ⟨g, rfl, hG, hgw, hb2⟩
      have hne : ((k : Int) != (k : Int)) = false := by simp
      have hB : Below w.heap.size w w2 := (hb.trans (hb1.mono (Nat.le_of_lt hsz))).trans (hb2.mono (Nat.le_of_lt (Nat.lt_of_lt_of_le hsz hb1.size)))
      clear hrow hrow' hb hsz hC hs1 hb1 hb2
      go_wp2
      go_loopw [8] (fun i wq => ∃ q : Nat, q ≤ k ∧ i = .int .i64 q ∧ wq.Alike w2 ∧ Below w.heap.size w wq) (fun i _ => k - (intOf i).toNat)
      case atStart => exact ⟨0, Nat.zero_le _, rfl, World.Alike.refl _, hB⟩
      case round =>
        obtain ⟨q, hq, rfl, hA, hB'⟩ := hrel
        by_cases hlt : q < k
        · obtain ⟨b, off, rfl, hc, hbl⟩ := HC.out q (by omega)
          have hc' : wr.cell? ⟨b, off + q, none⟩ = some (.int .i64 (f q)) := (hA.cell _).trans ((hB.cell (p := ⟨b, off + q, none⟩) hbl).trans hc)
          have hg0 : wr.cell? ⟨g, q * 3, none⟩ = some (.int .u8 1) := (hA.cell _).trans ((hG.cell (i := q * 3) (by omega)).trans (by rw [vals_0]))
          have hg1 : wr.cell? ⟨g, q * 3 + 1, none⟩ = some (.int .i64 (f q)) := (hA.cell _).trans ((hG.cell (i := q * 3 + 1) (by omega)).trans (by rw [vals_1]))
          have hff : (f q != f q) = false := by simp
          have hnn : (q : Int) < (m : Int) := by omega
          have hkk : (q : Int) < (k : Int) := by omega
          go_wp2
          go_quiet (fail)
          go_wp2
          go_roundw
          case rel => exact ⟨q + 1, by omega, by go_num, hA, ⟨hB'.os, hB'.tape, hB'.output, hB'.size, hB'.block⟩⟩
          case measure => simp [intOf]; omega
        · by_cases hkm : k = m
          · subst hkm
            have hgN := hgw rfl
            subst hgN
            have he : ((k : Int) == (k : Int)) = true := by simp
            by_cases hk0 : k = 0
            · subst hk0
              go_wp2
              go_quiet (fail)
              go_wp2
              go_ret
              exact ⟨rfl, ⟨hB'.os, hB'.tape, hB'.output, hB'.size, hB'.block⟩⟩
            · have hz : decide ((0 : Int) < (k : Int)) = true := decide_eq_true (by omega)
              have hz' : decide (0 < k) = true := decide_eq_true (by omega)
              have hlt0 : (0 : Int) < (k : Int) := by omega
              have hlt1 : 0 < k := by omega
              have hpn := fun wx => ptr_same ⟨w.heap.size, 0, none⟩ wx
              go_wp2
              go_quiet (fail)
              go_wp2
              go_ret
              exact ⟨rfl, ⟨hB'.os, hB'.tape, hB'.output, hB'.size, hB'.block⟩⟩
          · have he : ((k : Int) == (m : Int)) = false := by simp; omega
            go_wp2
            go_quiet (fail)
            go_wp2
            go_ret
            exact ⟨rfl, ⟨hB'.os, hB'.tape, hB'.output, hB'.size, hB'.block⟩⟩
end Go.Proofs.Qxb6001718a
