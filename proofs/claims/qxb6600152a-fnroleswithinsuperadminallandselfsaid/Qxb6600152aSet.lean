import Derived.Test.Qxb6600152aInv
import Derived.RegionTactic
namespace Go.Proofs.Qxb6600152a
open Go.RowKit

theorem info37 : (Try.prog.info? 37).map (fun i => (i.zero, i.size, i.bytes)) = some (some (.agg #[.string ⟨#[]⟩, .slice none 0 0]), 2, 40) := by kernel_rfl

def rcells (n : Nat) : Array Value := madeCells #[.string ⟨#[]⟩, .slice none 0 0] (n * 2)

theorem run_make37 (n : Nat) (hn : n ≤ 4096) (w : World) :
    (Instr.makeSlice 35 (.int .i64 n) (.int .i64 n)).run Try.prog w = .ok (.slice (some ⟨w.heap.size, 0, none⟩) n n) (w.alloc (.cells (rcells n) 37)) := by
  obtain ⟨i, hi, hzz⟩ := Option.map_eq_some_iff.1 info37
  simp only [Prod.mk.injEq] at hzz
  obtain ⟨hz, hs, hb⟩ := hzz
  have hr := run_make (P := Try.prog) w 35 37 i _ Try.underlying35 hi hz .i64 .i64 n n (by omega) (by omega) (by rw [hb]; omega) (by omega)
  simp only [Int.toNat_natCast, hs] at hr
  exact hr

/-- the cells of the roles: name, permissions, name, permissions .. -/
def rval (R : List ByteArray) (Q : List (Nat × Nat × List ByteArray)) (j : Nat) : Value := if j % 2 = 0 then .string (nth R (j / 2)) else qv (nthQ Q (j / 2))
theorem rval_0 (R : List ByteArray) (Q : List (Nat × Nat × List ByteArray)) (m : Nat) : rval R Q (m * 2) = .string (nth R m) := by
  unfold rval; rw [if_pos (by omega), show m * 2 / 2 = m by omega]
theorem rval_1 (R : List ByteArray) (Q : List (Nat × Nat × List ByteArray)) (m : Nat) : rval R Q (m * 2 + 1) = qv (nthQ Q m) := by
  unfold rval; rw [if_neg (by omega), show (m * 2 + 1) / 2 = m by omega]
def rz (j : Nat) : Value := if j % 2 = 0 then .string ⟨#[]⟩ else .slice none 0 0
def rUp (R : List ByteArray) (Q : List (Nat × Nat × List ByteArray)) (m j : Nat) : Value := if j < m * 2 then rval R Q j else rz j
theorem rUp_step (R : List ByteArray) (Q : List (Nat × Nat × List ByteArray)) (m j : Nat) : rUp R Q (m + 1) j = if j = m * 2 + 1 then qv (nthQ Q m) else if j = m * 2 then .string (nth R m) else rUp R Q m j := by
  by_cases h1 : j = m * 2 + 1
  · subst h1; rw [if_pos rfl]; unfold rUp; rw [if_pos (by omega), rval_1]
  rw [if_neg h1]
  by_cases h0 : j = m * 2
  · subst h0; rw [if_pos rfl]; unfold rUp; rw [if_pos (by omega), rval_0]
  rw [if_neg h0]
  unfold rUp
  by_cases h : j < m * 2
  · rw [if_pos h, if_pos (by omega)]
  · rw [if_neg h, if_neg (by omega)]
theorem rstart (w : World) (R : List ByteArray) (Q : List (Nat × Nat × List ByteArray)) (k : Nat) : (w.alloc (.cells (rcells k) 37)).rowIs w.heap.size 37 (k * 2) (rUp R Q 0) := by
  refine ⟨_, Deep.blk_alloc_new _ _, size_madeCells _ _, fun i hi => ?_⟩
  unfold rUp rz
  rw [if_neg (by omega)]
  have h3 : i % 2 = 0 ∨ i % 2 = 1 := by omega
  rcases h3 with h | h <;> simp [rcells, madeCells, hi, h]
theorem rstep {w : World} {b k m : Nat} {R : List ByteArray} {Q : List (Nat × Nat × List ByteArray)} (h : w.rowIs b 37 (k * 2) (rUp R Q m)) :
    ((w.setCell ⟨b, m * 2, none⟩ (.string (nth R m))).setCell ⟨b, m * 2 + 1, none⟩ (qv (nthQ Q m))).rowIs b 37 (k * 2) (rUp R Q (m + 1)) :=
  ((h.set (m * 2) (.string (nth R m))).set (m * 2 + 1) (qv (nthQ Q m))).congr fun j _ => (rUp_step R Q m j).symm

/-- the role set at S -/
structure RS (w : World) (S rb g4 c4 : Nat) (R : List ByteArray) (Q : List (Nat × Nat × List ByteArray)) (A : List ByteArray) : Prop where
  c0 : w.cell? ⟨S, 0, none⟩ = some (.slice (some ⟨rb, 0, none⟩) R.length R.length)
  c3 : w.cell? ⟨S, 3, none⟩ = some (.slice (some ⟨g4, 0, none⟩) A.length c4)
  rn : ∀ i, i < R.length → w.cell? ⟨rb, i * 2, none⟩ = some (.string (nth R i))
  rp : ∀ i, i < R.length → w.cell? ⟨rb, i * 2 + 1, none⟩ = some (qv (nthQ Q i))
  s : ∀ t ∈ Q, Strs w (some ⟨t.1, 0, none⟩) t.2.2 ∧ t.2.2.length ≤ 1048576 ∧ ∀ x ∈ t.2.2, x ∈ A
  a : Strs w (some ⟨g4, 0, none⟩) A
  len : R.length = Q.length
  le : R.length ≤ 4096
  ale : A.length ≤ 8589934592

theorem keep {w w' : World} {p : Addr} {v : Value} (hb : Below w.heap.size w w') (h : w.cell? p = some v) : w'.cell? p = some v := (hb.cell (block_lt_of_cell h)).trans h

theorem RS.below {w w' : World} {S rb g4 c4 : Nat} {R : List ByteArray} {Q : List (Nat × Nat × List ByteArray)} {A : List ByteArray} (h : RS w S rb g4 c4 R Q A) (hb : Below w.heap.size w w') : RS w' S rb g4 c4 R Q A :=
  ⟨keep hb h.c0, keep hb h.c3, fun i hi => keep hb (h.rn i hi), fun i hi => keep hb (h.rp i hi), fun t ht => ⟨(h.s t ht).1.below hb, (h.s t ht).2⟩, h.a.below hb, h.len, h.le, h.ale⟩

theorem newRoleSet_any (a a' : Option Addr) (n c n' c' : Nat) (d d' : ByteArray) (w : World) :
    Calls Try.prog 21 #[.slice a n c, .string d, .string d', .slice a' n' c'] w fun e w' => e = .returned (.pointer (some ⟨w.heap.size, 0, none⟩)) ∧ w.alloc (.cells #[.slice a n c, .string d, .string d', .slice a' n' c'] 40) = w' := by
  go_enter Try.func21, Try.ntmps21
  go_wp2
  go_ret
  exact ⟨rfl, rfl⟩

theorem qv_open (t : Nat × Nat × List ByteArray) : ∃ (a : Option Addr) (n c : Nat), qv t = .slice a n c := ⟨_, _, _, rfl⟩

set_option maxHeartbeats 1000000 in
theorem roleSet_any (g1 c1 g2 c2 g4 c4 : Nat) (R : List ByteArray) (Q : List (Nat × Nat × List ByteArray)) (A : List ByteArray) (w : World) (ht : Table w g1 R g2 Q g4 A) :
    Calls Try.prog 9 #[.slice (some ⟨g1, 0, none⟩) R.length c1, .slice (some ⟨g2, 0, none⟩) R.length c2, .slice (some ⟨g4, 0, none⟩) A.length c4] w fun e w' =>
      ∃ S rb, e = .returned (.pointer (some ⟨S, 0, none⟩)) ∧ RS w' S rb g4 c4 R Q A ∧ Below w.heap.size w w' := by
  have hle := ht.le
  have hmk := fun w => run_make37 R.length hle w
  go_enter Try.func9, Try.ntmps9
  go_wp2
  go_loopw [8] (fun i wr => ∃ m : Nat, m ≤ R.length ∧ i = .int .i64 m ∧ wr.rowIs w.heap.size 37 (R.length * 2) (rUp R Q m) ∧ Below w.heap.size w wr) (fun i _ => R.length - (intOf i).toNat)
  case atStart => exact ⟨0, Nat.zero_le _, rfl, rstart w R Q _, (Below.refl _ _).alloc (Nat.le_refl _) _⟩
  case round =>
    obtain ⟨m, hm, rfl, hrow, hb⟩ := hrel
    clear hmk
    by_cases hlt : m < R.length
    · obtain ⟨b, off, e1, hc1⟩ := (ht.below hb).r m hlt
      cases e1
      rw [Nat.zero_add] at hc1
      have hc2 := (ht.below hb).q m (by rw [← ht.len]; exact hlt)
      have hd0 := hrow.cell (i := m * 2) (by omega)
      have hd1 := hrow.cell (i := m * 2 + 1) (by omega)
      have hf0 := hrow.frozen (m * 2)
      have hf1 := hrow.frozen (m * 2 + 1)
      have hstep := rstep hrow
      obtain ⟨qa, qn, qc, hq⟩ := qv_open (nthQ Q m)
      rw [hq] at hc2 hstep
      clear hq
      have hlt' : (m : Int) < (R.length : Int) := by omega
      go_wp2
      go_region
      go_wp2
      go_roundw
      case rel => exact ⟨m + 1, by omega, by go_num, hstep.drew, ((hb.setCell (Nat.le_refl _) _).setCell (Nat.le_refl _) _).drew⟩
      case measure => simp [intOf]; omega
    · obtain rfl : m = R.length := by omega
      have hal := fun o => (Below.refl wr.heap.size wr).alloc (Nat.le_refl _) o
      have HAL : Hid (∀ o, Below wr.heap.size wr (wr.alloc o)) := hal
      clear hal
      by_cases h0 : 0 < R.length
      · have h0' : (0 : Int) < (R.length : Int) := by omega
        obtain ⟨b, off, e1, hc1⟩ := (ht.below hb).r 0 h0
        cases e1
        rw [Nat.zero_add] at hc1
        go_wp2_with fail
        have hal := HAL.out
        refine (newRoleSet_any _ _ _ _ _ _ _ _ _).mono ?_
        rintro e w2 ⟨rfl, rfl⟩
        go_wp2
        go_ret
        refine ⟨wr.heap.size, w.heap.size, rfl, ⟨by simp, by simp, fun i hi => ?_, fun i hi => ?_, fun t htq => ?_, ?_, ht.len, ht.le, ht.ale⟩, hb.alloc hb.size _⟩
        · exact keep (hal _) ((hrow.cell (i := i * 2) (by omega)).trans (by unfold rUp; rw [if_pos (by omega), rval_0]))
        · exact keep (hal _) ((hrow.cell (i := i * 2 + 1) (by omega)).trans (by unfold rUp; rw [if_pos (by omega), rval_1]))
        · exact ⟨(((ht.below hb).s t htq).1).below (hal _), (ht.s t htq).2⟩
        · exact ((ht.below hb).a).below (hal _)
      · go_wp2_with fail
        have hal := HAL.out
        refine (newRoleSet_any _ _ _ _ _ _ _ _ _).mono ?_
        rintro e w2 ⟨rfl, rfl⟩
        go_wp2
        go_ret
        refine ⟨wr.heap.size, w.heap.size, rfl, ⟨by simp, by simp, fun i hi => ?_, fun i hi => ?_, fun t htq => ?_, ?_, ht.len, ht.le, ht.ale⟩, hb.alloc hb.size _⟩
        · exact keep (hal _) ((hrow.cell (i := i * 2) (by omega)).trans (by unfold rUp; rw [if_pos (by omega), rval_0]))
        · exact keep (hal _) ((hrow.cell (i := i * 2 + 1) (by omega)).trans (by unfold rUp; rw [if_pos (by omega), rval_1]))
        · exact ⟨(((ht.below hb).s t htq).1).below (hal _), (ht.s t htq).2⟩
        · exact ((ht.below hb).a).below (hal _)
end Go.Proofs.Qxb6600152a
