import Derived.Test.Qxb6000381aWalks
namespace Go.Proofs.Qxb6000381a
open Go.RowKit
set_option linter.unusedVariables false
set_option maxHeartbeats 1000000 in
theorem std_4 (g n : Nat) (x0 x1 x2 x3 : Int) (hn : 4 ≤ n) (hl : n ≤ 1048576) (b0 : 0 ≤ x0 ∧ x0 ≤ 255) (b1 : 0 ≤ x1 ∧ x1 ≤ 255) (b2 : 0 ≤ x2 ∧ x2 ≤ 255) (b3 : 0 ≤ x3 ∧ x3 ≤ 255) (w : World)
    (c0 : w.cell? ⟨g, 0, none⟩ = some (.int .u8 x0)) (c1 : w.cell? ⟨g, 1, none⟩ = some (.int .u8 x1)) (c2 : w.cell? ⟨g, 2, none⟩ = some (.int .u8 x2)) (c3 : w.cell? ⟨g, 3, none⟩ = some (.int .u8 x3)) :
    Calls Try.prog 10 #[.slice (some ⟨g, 0, none⟩) n n] w (PS n x0 x1 x2 x3 w) := by
  have n0 : 0 < n := by omega
  have n1 : (1 : Int) < (n : Int) := by omega
  have n2 : (2 : Int) < (n : Int) := by omega
  have n3 : (3 : Int) < (n : Int) := by omega
  go_enter Try.func10, Try.ntmps10
  go_wp2
  all_goals go_ret
  all_goals refine PS.mk ?_
  all_goals go_light
  all_goals ((try simp only [bne_iff_ne, ne_eq, beq_iff_eq, beq_eq_false_iff_ne, bne_eq_false_iff_eq] at *); unfold Spec; omega)

set_option maxHeartbeats 1000000 in
theorem std_2 (g n : Nat) (x0 x1 x2 x3 : Int) (hn : 2 ≤ n) (hl : n < 4) (b0 : 0 ≤ x0 ∧ x0 ≤ 255) (b1 : 0 ≤ x1 ∧ x1 ≤ 255) (b2 : 0 ≤ x2 ∧ x2 ≤ 255) (b3 : 0 ≤ x3 ∧ x3 ≤ 255) (w : World)
    (c0 : w.cell? ⟨g, 0, none⟩ = some (.int .u8 x0)) (c1 : w.cell? ⟨g, 1, none⟩ = some (.int .u8 x1)) :
    Calls Try.prog 10 #[.slice (some ⟨g, 0, none⟩) n n] w (PS n x0 x1 x2 x3 w) := by
  have n0 : 0 < n := by omega
  have n1 : (1 : Int) < (n : Int) := by omega
  go_enter Try.func10, Try.ntmps10
  go_wp2
  all_goals go_ret
  all_goals refine PS.mk ?_
  all_goals go_light
  all_goals ((try simp only [bne_iff_ne, ne_eq, beq_iff_eq, beq_eq_false_iff_ne, bne_eq_false_iff_eq] at *); unfold Spec; omega)

set_option maxHeartbeats 1000000 in
theorem std_1 (g n : Nat) (x0 x1 x2 x3 : Int) (hn : n = 1) (b0 : 0 ≤ x0 ∧ x0 ≤ 255) (b1 : 0 ≤ x1 ∧ x1 ≤ 255) (b2 : 0 ≤ x2 ∧ x2 ≤ 255) (b3 : 0 ≤ x3 ∧ x3 ≤ 255) (w : World)
    (c0 : w.cell? ⟨g, 0, none⟩ = some (.int .u8 x0)) :
    Calls Try.prog 10 #[.slice (some ⟨g, 0, none⟩) n n] w (PS n x0 x1 x2 x3 w) := by
  subst hn
  go_enter Try.func10, Try.ntmps10
  go_wp2
  all_goals go_ret
  all_goals refine PS.mk ?_
  all_goals go_light
  all_goals ((try simp only [bne_iff_ne, ne_eq, beq_iff_eq, beq_eq_false_iff_ne, bne_eq_false_iff_eq] at *); unfold Spec; omega)

end Go.Proofs.Qxb6000381a
