import Derived.Test.Qxb6001718aRows
import Derived.WalkKit
import Derived.Deep.OwnRows
namespace Go.Proofs.Qxb6001718a
open Go.RowKit

theorem info3 : (Try.prog.info? 3).map (fun i => (i.zero, i.size, i.bytes)) = some (some (.int .i64 0), 1, 8) := by kernel_rfl
theorem info4 : (Try.prog.info? 4).map (fun i => (i.zero, i.size, i.bytes)) = some (some (.bool false), 1, 1) := by kernel_rfl

theorem Grown.trans {a b c : World} (h : Grown a b) (k : Grown b c) : Grown a c :=
  ⟨World.keptBut_trans h.1 (World.keptBut_mono (fun _ f => f.elim) k.1), fun x => (k.2.1 x).trans (h.2.1 x), Nat.le_trans h.2.2 k.2.2⟩

/-- 'positions(n)': a new row that holds 0 .. n-1. -/
theorem positions_any (n : Nat) (hn : n ≤ 65536) (w : World) :
    Calls Try.prog 17 #[.int .i64 n] w fun e w' => e = .returned (.slice (some ⟨w.heap.size, 0, none⟩) n n) ∧
      w'.rowIs w.heap.size 3 n (fun i => .int .i64 i) ∧ w'.heap.size = w.heap.size + 1 ∧ Grown w w' ∧ Below w.heap.size w w' := by
  have hmk := fun w => run_make_row' (P := Try.prog) 22 3 (.int .i64 0) 8 Try.underlying22 info3 rfl .i64 .i64 n (by omega) (by omega) w
  go_enter Try.func17, Try.ntmps17
  go_wp2
  go_loopw [9] (fun i wr => ∃ k : Nat, k ≤ n ∧ i = .int .i64 k ∧ wr.rowIs w.heap.size 3 n (fun j => if j < k then .int .i64 j else .int .i64 0) ∧ wr.heap.size = w.heap.size + 1 ∧ Grown w wr ∧ Below w.heap.size w wr) (fun i _ => n - (intOf i).toNat)
  case atStart =>
    exact ⟨0, Nat.zero_le _, rfl, (World.rowIs_made w (.int .i64 0) n 3).congr (fun i hi => by simp), by simp, (Grown.refl _).alloc _ _, (Below.refl _ _).alloc (Nat.le_refl _) _⟩
  case round =>
    obtain ⟨k, hk, rfl, hrow, hsz, hg, hb⟩ := hrel
    by_cases hlt : k < n
    · have hc := hrow.cell hlt
      have hf := hrow.frozen k
      clear hmk
      go_wp2
      go_roundw
      case rel =>
        exact ⟨k + 1, by omega, by go_num, (hrow.set k (.int .i64 k)).congr (fun i hi => by
          by_cases e : i = k
          · subst e; simp
          · by_cases l : i < k
            · simp [e, l, show i < k + 1 by omega]
            · simp [e, l, show ¬ i < k + 1 by omega]), by simpa [World.setCell] using hsz, hg.setCell (Nat.le_refl _) _, hb.setCell (Nat.le_refl _) _⟩
      case measure => simp [intOf]; omega
    · clear hmk
      go_wp2
      go_ret
      exact ⟨rfl, hrow.congr (fun i hi => by simp [show i < k by omega]), hsz, hg, hb⟩

/-- 'ZZPositions(n)'. -/
theorem zzPositions_any (n : Nat) (hn : n ≤ 65536) (w : World) :
    Calls Try.prog 9 #[.int .i64 n] w fun e w' => e = .returned (.slice (some ⟨w.heap.size, 0, none⟩) n n) ∧
      w'.rowIs w.heap.size 3 n (fun i => .int .i64 i) ∧ w'.heap.size = w.heap.size + 1 ∧ Grown w w' ∧ Below w.heap.size w w' := by
  go_enter Try.func9, Try.ntmps9
  go_wp2_with fail
  refine (positions_any n hn _).mono ?_
  rintro e w' ⟨rfl, hr, hs, hg, hb⟩
  go_wp2
  go_ret
  exact ⟨rfl, hr, hs, hg, hb⟩
end Go.Proofs.Qxb6001718a
