import Derived.Test.Qxb6000381aRows
import Derived.WalkKit
import Derived.Deep.OwnRows
import Derived.Lib.SliceRun
import Derived.Deep.Light
namespace Go.Proofs.Qxb6000381a
open Go.RowKit
set_option linter.unusedVariables false

/-- the answer of the standard's byte ranges: n bytes, the first four of them x0 .. x3 -/
def Spec (n : Nat) (x0 x1 x2 x3 r : Int) : Prop :=
  (x0 < 128 ∧ r = 1) ∨
  (129 ≤ x0 ∧ x0 ≤ 254 ∧ 2 ≤ n ∧ 64 ≤ x1 ∧ x1 ≤ 254 ∧ x1 ≠ 127 ∧ r = 2) ∨
  (129 ≤ x0 ∧ x0 ≤ 254 ∧ 4 ≤ n ∧ 48 ≤ x1 ∧ x1 ≤ 57 ∧ 129 ≤ x2 ∧ x2 ≤ 254 ∧ 48 ≤ x3 ∧ x3 ≤ 57 ∧ r = 4) ∨
  (¬ x0 < 128 ∧ ¬ (129 ≤ x0 ∧ x0 ≤ 254 ∧ 2 ≤ n ∧ 64 ≤ x1 ∧ x1 ≤ 254 ∧ x1 ≠ 127) ∧ ¬ (129 ≤ x0 ∧ x0 ≤ 254 ∧ 4 ≤ n ∧ 48 ≤ x1 ∧ x1 ≤ 57 ∧ 129 ≤ x2 ∧ x2 ≤ 254 ∧ 48 ≤ x3 ∧ x3 ≤ 57) ∧ r = 0)

theorem Spec.one {n : Nat} {x0 x1 x2 x3 r s : Int} (h : Spec n x0 x1 x2 x3 r) (k : Spec n x0 x1 x2 x3 s) : r = s := by
  unfold Spec at h k; omega

theorem info5 : (Try.prog.info? 5).map (fun i => (i.zero, i.size, i.bytes)) = some (some (.int .u8 0), 1, 1) := by kernel_rfl

theorem bytes_yes (a : Option Addr) (n c : Nat) (h : n ≤ 1048576) (w : World) :
    Calls Try.prog 7 #[.slice a n c] w fun e w' => e = .returned (.bool true) ∧ w = w' := by
  go_enter Try.func7, Try.ntmps7
  go_wp2
  go_ret
  exact ⟨rfl, rfl⟩
theorem bytes_no (a : Option Addr) (n c : Nat) (h : 1048576 < n) (hs : n ≤ 9223372036854775807) (w : World) :
    Calls Try.prog 7 #[.slice a n c] w fun e w' => e = .returned (.bool false) ∧ w = w' := by
  go_enter Try.func7, Try.ntmps7
  go_wp2
  go_ret
  exact ⟨rfl, rfl⟩

theorem eql_nil (wx : World) (x : Addr) (n c : Nat) : (binOp .eql 22 (.slice (some x) n c) (.slice none 0 0)).run Try.prog wx = .ok (.bool false) wx :=
  Lib.run_eql_slice_nil wx 22 5 (some x) n c 0 0 Try.underlying22

/-- 'cloneBytes(b)' -/
theorem clone_any (b off n cap : Nat) (f : Nat → Int) (hn : n ≤ 1048576) (w : World) (hb : b < w.heap.size) (hc : ∀ i, i < n → w.cell? ⟨b, off + i, none⟩ = some (.int .u8 (f i))) :
    Calls Try.prog 8 #[.slice (some ⟨b, off, none⟩) n cap] w fun e w' => e = .returned (.slice (some ⟨w.heap.size, 0, none⟩) n n) ∧ w'.rowIs w.heap.size 5 n (fun i => .int .u8 (f i)) ∧ Below w.heap.size w w' := by
  have HC : Hid (∀ i, i < n → w.cell? ⟨b, off + i, none⟩ = some (.int .u8 (f i))) := hc
  clear hc
  have hmk := fun w => run_make_row' (P := Try.prog) 22 5 (.int .u8 0) 1 Try.underlying22 info5 rfl .i64 .i64 n (by omega) (by omega) w
  have hnil := eql_nil
  go_enter Try.func8, Try.ntmps8
  go_wp2
  go_loopw [4] (fun i wr => ∃ k : Nat, k ≤ n ∧ i = .int .i64 k ∧ wr.rowIs w.heap.size 5 n (fun j => if j < k then .int .u8 (f j) else .int .u8 0) ∧ Below w.heap.size w wr) (fun i _ => n - (intOf i).toNat)
  case atStart => exact ⟨0, Nat.zero_le _, rfl, (World.rowIs_made w (.int .u8 0) n 5).congr (fun i hi => by simp), (Below.refl _ _).alloc (Nat.le_refl _) _⟩
  case round =>
    obtain ⟨k, hk, rfl, hrow, hbl⟩ := hrel
    clear hmk hnil
    by_cases hlt : k < n
    · have hcs : wr.cell? ⟨b, off + k, none⟩ = some (.int .u8 (f k)) := (hbl.cell (p := ⟨b, off + k, none⟩) hb).trans (HC.out k hlt)
      have hd := hrow.cell hlt
      have hf := hrow.frozen k
      go_wp2
      go_roundw
      case rel =>
        exact ⟨k + 1, by omega, by go_num, (hrow.set k (.int .u8 (f k))).congr (fun i hi => by
          by_cases e : i = k
          · subst e; simp
          · by_cases l : i < k
            · simp [e, l, show i < k + 1 by omega]
            · simp [e, l, show ¬ i < k + 1 by omega]), hbl.setCell (Nat.le_refl _) _⟩
      case measure => simp [intOf]; omega
    · go_wp2
      go_ret
      exact ⟨rfl, hrow.congr (fun i hi => by simp [show i < k by omega]), hbl⟩

def PS (n : Nat) (x0 x1 x2 x3 : Int) (w : World) (e : Ending) (w' : World) : Prop := ∃ r : Int, e = .returned (.int .i64 r) ∧ Spec n x0 x1 x2 x3 r ∧ w = w'
theorem PS.mk {n : Nat} {x0 x1 x2 x3 : Int} {w : World} {r : Int} (h : Spec n x0 x1 x2 x3 r) : PS n x0 x1 x2 x3 w (.returned (.int .i64 r)) w := ⟨r, rfl, h, rfl⟩

set_option maxHeartbeats 1000000 in
theorem len_4 (g n : Nat) (x0 x1 x2 x3 : Int) (hn : 4 ≤ n) (hl : n ≤ 1048576) (b0 : 0 ≤ x0 ∧ x0 ≤ 255) (b1 : 0 ≤ x1 ∧ x1 ≤ 255) (b2 : 0 ≤ x2 ∧ x2 ≤ 255) (b3 : 0 ≤ x3 ∧ x3 ≤ 255) (w : World)
    (c0 : w.cell? ⟨g, 0, none⟩ = some (.int .u8 x0)) (c1 : w.cell? ⟨g, 1, none⟩ = some (.int .u8 x1)) (c2 : w.cell? ⟨g, 2, none⟩ = some (.int .u8 x2)) (c3 : w.cell? ⟨g, 3, none⟩ = some (.int .u8 x3)) :
    Calls Try.prog 18 #[.slice (some ⟨g, 0, none⟩) n n] w (PS n x0 x1 x2 x3 w) := by
  have n0 : 0 < n := by omega
  have n1 : (1 : Int) < (n : Int) := by omega
  have n2 : (2 : Int) < (n : Int) := by omega
  have n3 : (3 : Int) < (n : Int) := by omega
  go_enter Try.func18, Try.ntmps18
  go_wp2
  all_goals go_ret
  all_goals refine PS.mk ?_
  all_goals go_light
  all_goals ((try simp only [bne_iff_ne, ne_eq, beq_iff_eq, beq_eq_false_iff_ne, bne_eq_false_iff_eq] at *); unfold Spec; omega)

set_option maxHeartbeats 1000000 in
theorem len_2 (g n : Nat) (x0 x1 x2 x3 : Int) (hn : 2 ≤ n) (hl : n < 4) (b0 : 0 ≤ x0 ∧ x0 ≤ 255) (b1 : 0 ≤ x1 ∧ x1 ≤ 255) (b2 : 0 ≤ x2 ∧ x2 ≤ 255) (b3 : 0 ≤ x3 ∧ x3 ≤ 255) (w : World)
    (c0 : w.cell? ⟨g, 0, none⟩ = some (.int .u8 x0)) (c1 : w.cell? ⟨g, 1, none⟩ = some (.int .u8 x1)) :
    Calls Try.prog 18 #[.slice (some ⟨g, 0, none⟩) n n] w (PS n x0 x1 x2 x3 w) := by
  have n0 : 0 < n := by omega
  have n1 : (1 : Int) < (n : Int) := by omega
  go_enter Try.func18, Try.ntmps18
  go_wp2
  all_goals go_ret
  all_goals refine PS.mk ?_
  all_goals go_light
  all_goals ((try simp only [bne_iff_ne, ne_eq, beq_iff_eq, beq_eq_false_iff_ne, bne_eq_false_iff_eq] at *); unfold Spec; omega)

set_option maxHeartbeats 1000000 in
theorem len_1 (g n : Nat) (x0 x1 x2 x3 : Int) (hn : n = 1) (b0 : 0 ≤ x0 ∧ x0 ≤ 255) (b1 : 0 ≤ x1 ∧ x1 ≤ 255) (b2 : 0 ≤ x2 ∧ x2 ≤ 255) (b3 : 0 ≤ x3 ∧ x3 ≤ 255) (w : World)
    (c0 : w.cell? ⟨g, 0, none⟩ = some (.int .u8 x0)) :
    Calls Try.prog 18 #[.slice (some ⟨g, 0, none⟩) n n] w (PS n x0 x1 x2 x3 w) := by
  subst hn
  go_enter Try.func18, Try.ntmps18
  go_wp2
  all_goals go_ret
  all_goals refine PS.mk ?_
  all_goals go_light
  all_goals ((try simp only [bne_iff_ne, ne_eq, beq_iff_eq, beq_eq_false_iff_ne, bne_eq_false_iff_eq] at *); unfold Spec; omega)

end Go.Proofs.Qxb6000381a
