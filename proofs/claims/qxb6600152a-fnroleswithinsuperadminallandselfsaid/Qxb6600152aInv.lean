import Derived.Test.Qxb6600152aSort
namespace Go.Proofs.Qxb6600152a
open Go.RowKit

/-- one role's permissions: the block, the capacity, the strings -/
def qv (t : Nat × Nat × List ByteArray) : Value := .slice (some ⟨t.1, 0, none⟩) t.2.2.length t.2.1
def nthQ (Q : List (Nat × Nat × List ByteArray)) (i : Nat) : Nat × Nat × List ByteArray := Q.getD i (0, 0, [])
theorem nthQ_get {Q : List (Nat × Nat × List ByteArray)} {i : Nat} (h : i < Q.length) : Q[i]? = some (nthQ Q i) := by
  unfold nthQ; rw [List.getD_eq_getElem?_getD, List.getElem?_eq_getElem h]; rfl
theorem nthQ_mem {Q : List (Nat × Nat × List ByteArray)} {i : Nat} (h : i < Q.length) : nthQ Q i ∈ Q := List.mem_of_getElem? (nthQ_get h)

theorem Row.ne {w : World} {g g' : Nat} {e e' : TypeId} {c c' : Nat} {xs xs' : List Value} (h : Row w g e c xs) (h' : Row w g' e' c' xs') (hne : e ≠ e') : g ≠ g' := by
  intro he
  subst he
  obtain ⟨cur, h1, _⟩ := h
  obtain ⟨cur', h2, _⟩ := h'
  rw [h1] at h2
  simp only [Option.some.injEq, Obj.cells.injEq] at h2
  exact hne h2.2.1

structure Inv (w : World) (g1 c1 : Nat) (R : List ByteArray) (g2 c2 : Nat) (Q : List (Nat × Nat × List ByteArray)) (g3 c3 : Nat) (P : List ByteArray) : Prop where
  r1 : Row w g1 9 c1 (R.map .string)
  r2 : Row w g2 22 c2 (Q.map qv)
  r3 : Row w g3 9 c3 (P.map .string)
  rq : ∀ t ∈ Q, Row w t.1 9 t.2.1 (t.2.2.map .string) ∧ t.1 ≠ g1 ∧ t.1 ≠ g3 ∧ t.2.2.length ≤ 1048576
  n13 : g1 ≠ g3

variable {w w' : World} {g1 c1 : Nat} {R : List ByteArray} {g2 c2 : Nat} {Q : List (Nat × Nat × List ByteArray)} {g3 c3 : Nat} {P : List ByteArray}

theorem Inv.below (h : Inv w g1 c1 R g2 c2 Q g3 c3 P) (hb : Below w.heap.size w w') : Inv w' g1 c1 R g2 c2 Q g3 c3 P :=
  ⟨h.r1.below hb, h.r2.below hb, h.r3.below hb, fun t ht => ⟨(h.rq t ht).1.below hb, (h.rq t ht).2⟩, h.n13⟩

theorem Inv.alloc (h : Inv w g1 c1 R g2 c2 Q g3 c3 P) (o : Obj) : Inv (w.alloc o) g1 c1 R g2 c2 Q g3 c3 P := h.below ((Below.refl _ _).alloc (Nat.le_refl _) _)

theorem new_ne {g g' c : Nat} {e : TypeId} {xs : List Value} (h : Row w g e c xs) (hg : g' = w.heap.size) : g ≠ g' := by have := h.lt; omega

theorem Inv.addR (h : Inv w g1 c1 R g2 c2 Q g3 c3 P) {g c : Nat} {R' : List ByteArray} (hr : Row w' g 9 c (R'.map .string)) (hg : w.grownBy w' (some g1)) (hor : g = g1 ∨ g = w.heap.size) : Inv w' g c R' g2 c2 Q g3 c3 P := by
  refine ⟨hr, h.r2.grown hg ?_, h.r3.grown hg ?_, fun t ht => ?_, ?_⟩
  · simp only [ne_eq, Option.some.injEq]; exact fun e => (h.r1.ne h.r2 (by decide)) e.symm
  · simp only [ne_eq, Option.some.injEq]; exact fun e => h.n13 e.symm
  · obtain ⟨a1, a2, a3, a4⟩ := h.rq t ht
    refine ⟨a1.grown hg (by simp only [ne_eq, Option.some.injEq]; exact a2), ?_, a3, a4⟩
    rcases hor with e | e
    · rw [e]; exact a2
    · exact new_ne a1 e
  · rcases hor with e | e
    · rw [e]; exact h.n13
    · exact fun e' => new_ne h.r3 e e'.symm

theorem Inv.addP (h : Inv w g1 c1 R g2 c2 Q g3 c3 P) {g c : Nat} {P' : List ByteArray} (hr : Row w' g 9 c (P'.map .string)) (hg : w.grownBy w' (some g3)) (hor : g = g3 ∨ g = w.heap.size) : Inv w' g1 c1 R g2 c2 Q g c P' := by
  refine ⟨h.r1.grown hg ?_, h.r2.grown hg ?_, hr, fun t ht => ?_, ?_⟩
  · simp only [ne_eq, Option.some.injEq]; exact h.n13
  · simp only [ne_eq, Option.some.injEq]; exact fun e => (h.r3.ne h.r2 (by decide)) e.symm
  · obtain ⟨a1, a2, a3, a4⟩ := h.rq t ht
    refine ⟨a1.grown hg (by simp only [ne_eq, Option.some.injEq]; exact a3), a2, ?_, a4⟩
    rcases hor with e | e
    · rw [e]; exact a3
    · exact new_ne a1 e
  · rcases hor with e | e
    · rw [e]; exact h.n13
    · exact new_ne h.r1 e

theorem Inv.addQ (h : Inv w g1 c1 R g2 c2 Q g3 c3 P) {g c : Nat} {t : Nat × Nat × List ByteArray} (ht : Row w t.1 9 t.2.1 (t.2.2.map .string)) (t1 : t.1 ≠ g1) (t3 : t.1 ≠ g3) (tl : t.2.2.length ≤ 1048576)
    (hr : Row w' g 22 c ((Q ++ [t]).map qv)) (hg : w.grownBy w' (some g2)) : Inv w' g1 c1 R g c (Q ++ [t]) g3 c3 P := by
  refine ⟨h.r1.grown hg ?_, hr, h.r3.grown hg ?_, fun s hs => ?_, h.n13⟩
  · simp only [ne_eq, Option.some.injEq]; exact h.r1.ne h.r2 (by decide)
  · simp only [ne_eq, Option.some.injEq]; exact h.r3.ne h.r2 (by decide)
  · have key : ∀ s : Nat × Nat × List ByteArray, Row w s.1 9 s.2.1 (s.2.2.map .string) → Row w' s.1 9 s.2.1 (s.2.2.map .string) := fun s hs =>
      hs.grown hg (by simp only [ne_eq, Option.some.injEq]; exact hs.ne h.r2 (by decide))
    rcases List.mem_append.1 hs with hs | hs
    · exact ⟨key s (h.rq s hs).1, (h.rq s hs).2⟩
    · rw [List.mem_singleton] at hs
      subst hs
      exact ⟨key s ht, t1, t3, tl⟩

/-- what came in as 'perms' -/
def Perms (w : World) (pa : Option Addr) (pn : Nat) : Prop :=
  ∀ i, i < pn → ∃ b off a n c xs, pa = some ⟨b, off, none⟩ ∧ w.cell? ⟨b, off + i, none⟩ = some (.slice a n c) ∧ List.length xs = n ∧ n ≤ 1048576 ∧ Strs w a xs

theorem Perms.below {pa : Option Addr} {pn : Nat} (h : Perms w pa pn) (hb : Below w.heap.size w w') : Perms w' pa pn := by
  intro i hi
  obtain ⟨b, off, a, n, c, xs, h1, h2, h3, h4, h5⟩ := h i hi
  exact ⟨b, off, a, n, c, xs, h1, (hb.cell (p := ⟨b, off + i, none⟩) (block_lt_of_cell h2)).trans h2, h3, h4, h5.below hb⟩

/-- what zzBuildTable leaves in memory -/
structure Table (w : World) (g1 : Nat) (R : List ByteArray) (g2 : Nat) (Q : List (Nat × Nat × List ByteArray)) (g4 : Nat) (A : List ByteArray) : Prop where
  r : Strs w (some ⟨g1, 0, none⟩) R
  q : ∀ i, i < Q.length → w.cell? ⟨g2, i, none⟩ = some (qv (nthQ Q i))
  s : ∀ t ∈ Q, Strs w (some ⟨t.1, 0, none⟩) t.2.2 ∧ t.2.2.length ≤ 1048576 ∧ ∀ x ∈ t.2.2, x ∈ A
  a : Strs w (some ⟨g4, 0, none⟩) A
  len : R.length = Q.length
  le : R.length ≤ 4096
  ale : A.length ≤ 8589934592

theorem Table.below {g4 : Nat} {A : List ByteArray} (h : Table w g1 R g2 Q g4 A) (hb : Below w.heap.size w w') : Table w' g1 R g2 Q g4 A :=
  ⟨h.r.below hb, fun i hi => (hb.cell (p := ⟨g2, i, none⟩) (block_lt_of_cell (h.q i hi))).trans (h.q i hi), fun t ht => ⟨(h.s t ht).1.below hb, (h.s t ht).2⟩, h.a.below hb, h.len, h.le, h.ale⟩

theorem Inv.table (h : Inv w g1 c1 R g2 c2 Q g3 c3 P) {g4 c4 : Nat} {A : List ByteArray} (hb : Below w.heap.size w w') (ha : Row w' g4 9 c4 (A.map .string)) (hsub : ∀ t ∈ Q, ∀ x ∈ t.2.2, x ∈ P) (hPA : ∀ x ∈ P, x ∈ A)
    (hlen : R.length = Q.length) (hle : R.length ≤ 4096) (hale : A.length ≤ 8589934592) : Table w' g1 R g2 Q g4 A :=
  ⟨(h.below hb).r1.strs, fun i hi => (h.below hb).r2.cell (by rw [List.getElem?_map, nthQ_get hi]; rfl), fun t ht => ⟨((h.below hb).rq t ht).1.strs, (h.rq t ht).2.2.2, fun x hx => hPA x (hsub t ht x hx)⟩, ha.strs, hlen, hle, hale⟩
end Go.Proofs.Qxb6600152a
