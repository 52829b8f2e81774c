import Derived.Test.Qxb6001718aPositions
import Derived.Test.Qxb6001718aCount
import Derived.Deep.QuietTactic
import Derived.BigQuiet
namespace Go.Proofs.Qxb6001718a
open Go.RowKit

theorem info30 : (Try.prog.info? 30).map (fun i => (i.zero, i.size, i.bytes)) = some (some (.agg #[.int .u8 0, .int .i64 0, .string ⟨#[]⟩]), 3, 32) := by kernel_rfl

/-- the cells that 'make([]Value, n)' lays -/
def zcells (n : Nat) : Array Value := madeCells #[.int .u8 0, .int .i64 0, .string ⟨#[]⟩] (n * 3)
theorem size_zcells (n : Nat) : (zcells n).size = n * 3 := size_madeCells _ _

theorem run_make30 (n : Nat) (hn : n ≤ 65536) (w : World) :
    (Instr.makeSlice 37 (.int .i64 n) (.int .i64 n)).run Try.prog w = .ok (.slice (some ⟨w.heap.size, 0, none⟩) n n) (w.alloc (.cells (zcells n) 30)) := by
  obtain ⟨i, hi, hzz⟩ := Option.map_eq_some_iff.1 info30
  simp only [Prod.mk.injEq] at hzz
  obtain ⟨hz, hs, hb⟩ := hzz
  have hr := run_make (P := Try.prog) w 37 30 i _ Try.underlying37 hi hz .i64 .i64 n n (by omega) (Int.le_refl _) (by rw [hb]; omega) (by omega)
  simp only [Int.toNat_natCast, hs] at hr
  exact hr

/-- BLOCK b HOLDS n VALUES OF KIND Int: the i-th is f i -/
def vals (f : Nat → Int) (j : Nat) : Value := if j % 3 = 0 then .int .u8 1 else if j % 3 = 1 then .int .i64 (f (j / 3)) else .string ⟨#[]⟩

theorem vals_0 (f : Nat → Int) (m : Nat) : vals f (m * 3) = .int .u8 1 := by unfold vals; rw [if_pos (by omega)]
theorem vals_1 (f : Nat → Int) (m : Nat) : vals f (m * 3 + 1) = .int .i64 (f m) := by
  unfold vals; rw [if_neg (by omega), if_pos (by omega), show (m * 3 + 1) / 3 = m by omega]
theorem vals_2 (f : Nat → Int) (m : Nat) : vals f (m * 3 + 2) = .string ⟨#[]⟩ := by unfold vals; rw [if_neg (by omega), if_neg (by omega)]

/-- what the row that is being filled holds after m rounds -/
def upTo (f : Nat → Int) (m j : Nat) : Value := if j < m * 3 then vals f j else zval j
  where zval (j : Nat) : Value := if j % 3 = 0 then .int .u8 0 else if j % 3 = 1 then .int .i64 0 else .string ⟨#[]⟩

theorem upTo_step (f : Nat → Int) (m j : Nat) : upTo f (m + 1) j = if j = m * 3 + 2 then .string ⟨#[]⟩ else if j = m * 3 + 1 then .int .i64 (f m) else if j = m * 3 then .int .u8 1 else upTo f m j := by
  by_cases h2 : j = m * 3 + 2
  · subst h2; rw [if_pos rfl]; unfold upTo; rw [if_pos (by omega), vals_2]
  rw [if_neg h2]
  by_cases h1 : j = m * 3 + 1
  · subst h1; rw [if_pos rfl]; unfold upTo; rw [if_pos (by omega), vals_1]
  rw [if_neg h1]
  by_cases h0 : j = m * 3
  · subst h0; rw [if_pos rfl]; unfold upTo; rw [if_pos (by omega), vals_0]
  rw [if_neg h0]
  unfold upTo
  by_cases h : j < m * 3
  · rw [if_pos h, if_pos (by omega)]
  · rw [if_neg h, if_neg (by omega)]

theorem row_step {w : World} {b k m : Nat} (f : Nat → Int) (h : w.rowIs b 30 (k * 3) (upTo f m)) :
    (((w.setCell ⟨b, m * 3, none⟩ (.int .u8 1)).setCell ⟨b, m * 3 + 1, none⟩ (.int .i64 (f m))).setCell ⟨b, m * 3 + 2, none⟩ (.string ⟨#[]⟩)).rowIs b 30 (k * 3) (upTo f (m + 1)) :=
  (((h.set (m * 3) (.int .u8 1)).set (m * 3 + 1) (.int .i64 (f m))).set (m * 3 + 2) (.string ⟨#[]⟩)).congr fun j _ => (upTo_step f m j).symm

theorem row_start (w : World) (f : Nat → Int) (k : Nat) : (w.alloc (.cells (zcells k) 30)).rowIs w.heap.size 30 (k * 3) (upTo f 0) := by
  refine ⟨_, Deep.blk_alloc_new _ _, size_zcells k, fun i hi => ?_⟩
  unfold upTo upTo.zval
  rw [if_neg (by omega)]
  have h3 : i % 3 = 0 ∨ i % 3 = 1 ∨ i % 3 = 2 := by omega
  rcases h3 with h | h | h <;> simp [zcells, madeCells, hi, h]

theorem row_end {w : World} {b k : Nat} {f : Nat → Int} (h : w.rowIs b 30 (k * 3) (upTo f k)) : w.rowIs b 30 (k * 3) (vals f) :=
  h.congr fun j hj => by unfold upTo; rw [if_pos hj]

theorem intValue_at (i : Int) (w : World) :
    Calls Try.prog 14 #[.int .i64 i] w fun e w' => e = .returned (.agg #[.int .u8 1, .int .i64 i, .string ⟨#[]⟩]) ∧ w.alloc (.cells #[.int .u8 1, .int .i64 i, .string ⟨#[]⟩] 30) = w' := by
  go_enter Try.func14, Try.ntmps14
  go_wp2
  exact bodyPost_ret (v := .agg #[.int .u8 1, .int .i64 i, .string ⟨#[]⟩]) (by simp [results, Try.results14, go_sem]) rfl ⟨rfl, rfl⟩

/-- '(*row).read(cols)', cols = 0 .. k-1, k below the number of values -/
theorem read_part (R N C n k : Nat) (f : Nat → Int) (hk : k < n) (hn : n ≤ 65536) (w : World)
    (hR0 : w.cell? ⟨R, 0, none⟩ = some (.slice (some ⟨N, 0, none⟩) n n))
    (hRs : R < w.heap.size) (hN : w.rowIs N 30 (n * 3) (vals f)) (hC : w.rowIs C 3 k (fun i => .int .i64 i)) :
    Calls Try.prog 20 #[.pointer (some ⟨R, 0, none⟩), .slice (some ⟨C, 0, none⟩) k k] w fun e w' => e = .returned (.slice (some ⟨w.heap.size, 0, none⟩) k k) ∧
      w'.rowIs w.heap.size 30 (k * 3) (vals f) ∧ Below w.heap.size w w' := by
  have hmk := fun w => run_make30 k (by omega) w
  have hne : ((k : Int) == (n : Int)) = false := by simp; omega
  have hCl := hC.lt
  have hNl := hN.lt
  go_enter Try.func20, Try.ntmps20
  go_wp2
  go_loopw [5, 6] (fun a i wr => a = .bool false ∧ i = .int .i64 0 ∧ w = wr) (fun _ _ _ => 0)
  case atStart => exact ⟨rfl, rfl, rfl⟩
  case round =>
    obtain ⟨rfl, rfl, rfl⟩ := hrel
    go_wp2
    go_loopw [43] (fun i w1 => ∃ m : Nat, m ≤ k ∧ i = .int .i64 m ∧ w1.rowIs w.heap.size 30 (k * 3) (upTo f m) ∧ Below w.heap.size w w1) (fun i _ => k - (intOf i).toNat)
    case atStart => exact ⟨0, Nat.zero_le _, rfl, row_start w f k, (Below.refl _ _).alloc (Nat.le_refl _) _⟩
    case round =>
      obtain ⟨m, hm, rfl, hrow, hb⟩ := hrel
      by_cases hlt : m < k
      · have hc : wr.cell? ⟨C, m, none⟩ = some (.int .i64 m) := (hb.cell (p := ⟨C, m, none⟩) hCl).trans (hC.cell hlt)
        have hr0 : wr.cell? ⟨R, 0, none⟩ = some (.slice (some ⟨N, 0, none⟩) n n) := (hb.cell (p := ⟨R, 0, none⟩) hRs).trans hR0
        have hv0 : wr.cell? ⟨N, m * 3, none⟩ = some (.int .u8 1) := by rw [hb.cell (p := ⟨N, m * 3, none⟩) hNl, hN.cell (i := m * 3) (by omega), vals_0]
        have hv1 : wr.cell? ⟨N, m * 3 + 1, none⟩ = some (.int .i64 (f m)) := by rw [hb.cell (p := ⟨N, m * 3 + 1, none⟩) hNl, hN.cell (i := m * 3 + 1) (by omega), vals_1]
        have hv2 : wr.cell? ⟨N, m * 3 + 2, none⟩ = some (.string ⟨#[]⟩) := by rw [hb.cell (p := ⟨N, m * 3 + 2, none⟩) hNl, hN.cell (i := m * 3 + 2) (by omega), vals_2]
        have hd0 := hrow.cell (i := m * 3) (by omega)
        have hd1 := hrow.cell (i := m * 3 + 1) (by omega)
        have hd2 := hrow.cell (i := m * 3 + 2) (by omega)
        have hf0 := hrow.frozen (m * 3)
        have hf1 := hrow.frozen (m * 3 + 1)
        have hf2 := hrow.frozen (m * 3 + 2)
        have hstep := row_step f hrow
        clear hmk hne
        go_wp2
        go_roundw
        case rel => exact ⟨m + 1, by omega, by go_num, hstep, ((hb.setCell (Nat.le_refl _) _).setCell (Nat.le_refl _) _).setCell (Nat.le_refl _) _⟩
        case measure => simp [intOf]; omega
      · obtain rfl : m = k := by omega
        clear hmk hne
        go_wp2
        go_ret
        exact ⟨rfl, row_end hrow, hb⟩

/-- '(*row).read(cols)', cols = 0 .. n-1: the row's own values -/
theorem read_whole (R N C n : Nat) (hn : n ≤ 65536) (w : World)
    (hR0 : w.cell? ⟨R, 0, none⟩ = some (.slice (some ⟨N, 0, none⟩) n n)) (hC : w.rowIs C 3 n (fun i => .int .i64 i)) :
    Calls Try.prog 20 #[.pointer (some ⟨R, 0, none⟩), .slice (some ⟨C, 0, none⟩) n n] w fun e w' => e = .returned (.slice (some ⟨N, 0, none⟩) n n) ∧ w = w' := by
  have hne : ((n : Int) == (n : Int)) = true := by simp
  go_enter Try.func20, Try.ntmps20
  go_wp2
  go_loop [5, 6] (fun a i => ∃ m : Nat, m ≤ n ∧ a = .bool true ∧ i = .int .i64 m) (fun _ i => n - (intOf i).toNat)
  case atStart => exact ⟨0, Nat.zero_le _, rfl, rfl⟩
  case round =>
    obtain ⟨m, hm, rfl, rfl⟩ := hrel
    by_cases hlt : m < n
    · have hc := hC.cell hlt
      have hmm : ((m : Int) == (m : Int)) = true := by simp
      go_wp2
      go_round
      case rel => exact ⟨m + 1, by omega, rfl, by go_num⟩
      case measure => simp [intOf]; omega
    · go_wp2
      go_ret
      exact ⟨rfl, rfl⟩

theorem bytesOk (a : Option Addr) (len cap : Nat) (k : Int) (h : len ≤ 1048576) (w : World) :
    Calls Try.prog 13 #[.slice a len cap, .int .i64 k] w fun e w' => e = .returned (.bool true) ∧ w = w' := by
  go_enter Try.func13, Try.ntmps13
  go_wp2
  go_ret
  exact ⟨rfl, rfl⟩
theorem bytesNo (a : Option Addr) (len cap : Nat) (k : Int) (h : 1048576 < len) (hl : len ≤ 9223372036854775807) (w : World) :
    Calls Try.prog 13 #[.slice a len cap, .int .i64 k] w fun e w' => e = .returned (.bool false) ∧ w = w' := by
  go_enter Try.func13, Try.ntmps13
  go_wp2
  go_ret
  exact ⟨rfl, rfl⟩

/-- 'ZZRowRead(vals, cols)', cols = 0 .. k-1 -/
theorem zzRowRead_any (N C n k : Nat) (f : Nat → Int) (hk : k ≤ n) (hn : n ≤ 65536) (w : World)
    (hN : w.rowIs N 30 (n * 3) (vals f)) (hC : w.rowIs C 3 k (fun i => .int .i64 i)) :
    Calls Try.prog 15 #[.slice (some ⟨N, 0, none⟩) n n, .slice (some ⟨C, 0, none⟩) k k] w fun e w' => ∃ b : Nat, e = .returned (.slice (some ⟨b, 0, none⟩) k k) ∧
      w'.rowIs b 30 (k * 3) (vals f) ∧ (k = n → b = N) ∧ Below w.heap.size w w' := by
  by_cases h : k = n
  · subst h
    go_enter Try.func15, Try.ntmps15
    go_wp2_with fail
    refine (read_whole w.heap.size N C k hn _ (by simp) (hC.alloc _)).mono ?_
    rintro e w' ⟨rfl, rfl⟩
    go_wp2
    go_ret
    exact ⟨N, rfl, hN.alloc _, fun _ => rfl, (Below.refl _ _).alloc (Nat.le_refl _) _⟩
  · go_enter Try.func15, Try.ntmps15
    go_wp2_with fail
    refine (read_part w.heap.size N C n k f (by omega) hn _ (by simp) (by simp) (hN.alloc _) (hC.alloc _)).mono ?_
    rintro e w' ⟨rfl, hrow, hb⟩
    go_wp2
    go_ret
    exact ⟨_, rfl, by simpa using hrow, fun e => absurd e h, ((Below.refl _ _).alloc (Nat.le_refl _) _).trans (hb.mono (by simp))⟩
end Go.Proofs.Qxb6001718a
