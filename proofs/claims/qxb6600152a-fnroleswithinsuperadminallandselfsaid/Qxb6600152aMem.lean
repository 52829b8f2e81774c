import Derived.WalkKit
import Derived.WalkSpells
import Derived.Deep.OwnRows
namespace Go.Proofs.Qxb6600152a
open Go.RowKit

def nth (xs : List ByteArray) (i : Nat) : ByteArray := xs.getD i ByteArray.empty

theorem nth_get {xs : List ByteArray} {i : Nat} (h : i < xs.length) : xs[i]? = some (nth xs i) := by
  unfold nth; rw [List.getD_eq_getElem?_getD, List.getElem?_eq_getElem h]; rfl

theorem nth_mem {xs : List ByteArray} {i : Nat} (h : i < xs.length) : nth xs i ∈ xs := List.mem_of_getElem? (nth_get h)

/-- the slice whose data begin at a holds the strings xs -/
def Strs (w : World) (a : Option Addr) (xs : List ByteArray) : Prop :=
  ∀ i, i < xs.length → ∃ b off, a = some ⟨b, off, none⟩ ∧ w.cell? ⟨b, off + i, none⟩ = some (.string (nth xs i))

theorem Strs.below {w w' : World} {a : Option Addr} {xs : List ByteArray} (h : Strs w a xs) (hb : Below w.heap.size w w') : Strs w' a xs := by
  intro i hi
  obtain ⟨b, off, ha, hc⟩ := h i hi
  exact ⟨b, off, ha, (hb.cell (p := ⟨b, off + i, none⟩) (block_lt_of_cell hc)).trans hc⟩

theorem Strs.nil (w : World) (a : Option Addr) : Strs w a [] := fun _ hi => absurd hi (Nat.not_lt_zero _)

/-- BLOCK g IS A ROW OF cap CELLS OF TYPE e, NONE FROZEN, ITS FIRST CELLS ARE xs -/
def Row (w : World) (g : Nat) (e : TypeId) (cap : Nat) (xs : List Value) : Prop :=
  ∃ cur : Array Value, w.heap[g]? = some (.cells cur e (0, 0)) ∧ cur.size = cap ∧ xs.length ≤ cap ∧ cap ≤ maxLen ∧ cur.toList.take xs.length = xs

namespace Row
variable {w w' : World} {g : Nat} {e : TypeId} {cap : Nat} {xs : List Value}

theorem cell (h : Row w g e cap xs) {i : Nat} {v : Value} (hi : xs[i]? = some v) : w.cell? ⟨g, i, none⟩ = some v := by
  obtain ⟨cur, hb, hs, hl, _, ht⟩ := h
  have hlt : i < xs.length := (List.getElem?_eq_some_iff.1 hi).1
  have : cur[i]? = some v := by
    rw [← ht, List.getElem?_take, if_pos hlt] at hi
    simpa using hi
  simp [World.cell?, hb, this]

theorem frozen (h : Row w g e cap xs) (i : Nat) : w.frozen? ⟨g, i, none⟩ = false := by
  obtain ⟨cur, hb, _⟩ := h
  simp [World.frozen?, hb]

theorem lt (h : Row w g e cap xs) : g < w.heap.size := by
  obtain ⟨cur, hb, _⟩ := h
  exact (Array.getElem?_eq_some_iff.1 hb).1

theorem le (h : Row w g e cap xs) : xs.length ≤ cap := h.choose_spec.2.2.1
theorem cap_le (h : Row w g e cap xs) : cap ≤ maxLen := h.choose_spec.2.2.2.1

theorem of_block (h : Row w g e cap xs) (hb : w'.heap[g]? = w.heap[g]?) : Row w' g e cap xs := by
  obtain ⟨cur, h1, h2⟩ := h
  exact ⟨cur, hb.trans h1, h2⟩

theorem below (h : Row w g e cap xs) (hb : Below w.heap.size w w') : Row w' g e cap xs := h.of_block (hb.block _ h.lt)

theorem alloc (h : Row w g e cap xs) (o : Obj) : Row (w.alloc o) g e cap xs := h.of_block (Deep.blk_alloc_lt _ _ _ h.lt)

theorem grown {row : Option Nat} (h : Row w g e cap xs) (hg : w.grownBy w' row) (hne : some g ≠ row) : Row w' g e cap xs := h.of_block (hg.block _ h.lt hne)

theorem strs {ys : List ByteArray} (h : Row w g e cap (ys.map .string)) : Strs w (some ⟨g, 0, none⟩) ys := by
  intro i hi
  refine ⟨g, 0, rfl, ?_⟩
  rw [Nat.zero_add]
  exact h.cell (by rw [List.getElem?_map, nth_get hi]; rfl)

theorem set (h : Row w g e cap xs) (i : Nat) (v : Value) : Row (w.setCell ⟨g, i, none⟩ v) g e cap (xs.set i v) := by
  obtain ⟨cur, hb, hs, hl, hm, ht⟩ := h
  refine ⟨cur.setIfInBounds i v, ?_, by simpa using hs, by simpa using hl, hm, ?_⟩
  · simp [World.setCell, Array.getElem?_modify, hb]
  · rw [List.length_set]
    simp only [Array.toList_setIfInBounds]
    rw [List.take_set, ht]

theorem setOther (h : Row w g e cap xs) {a : Addr} (ha : g ≠ a.block) (v : Value) : Row (w.setCell a v) g e cap xs := h.of_block (Deep.blk_setCell_other _ _ _ _ ha)
end Row

section
variable {P : Program} (w : World)

theorem run_append_row (t ty e : TypeId) (i : TypeInfo) (z : Value) (bytes : Nat) (ht : P.underlying t = some (.slice e)) (hi : P.info? e = some i) (hz : i.zero = some z)
    (hsize : i.size = 1) (hby : i.bytes = bytes) (hzs : z.cells.size = 1) (g cap : Nat) (xs : List Value) (hrow : Row w g e cap xs)
    (a : Addr) (m c : Nat) (news : List Value) (hl : news.length = m) (hnews : ∀ j u, news[j]? = some u → w.cell? (a.add j) = some u) (h1 : ∀ u ∈ news, u.oneCell' = true)
    (h63 : xs.length + m ≤ maxLen) (hbytes : (xs.length + m) * bytes ≤ 140737488355328) :
    ∃ g' cap' w', (Builtin.append_ #[t, t] ty #[.slice (some ⟨g, 0, none⟩) xs.length cap, .slice (some a) m c]).run P w = .ok (.slice (some ⟨g', 0, none⟩) (xs.length + m) cap') w' ∧
      Row w' g' e cap' (xs ++ news) ∧ w.grownBy w' (some g) ∧ (g' = g ∨ g' = w.heap.size) ∧ (xs.length + m ≤ cap → g = g' ∧ cap = cap') := by
  subst hby
  have hsmall : xs.length + m ≤ 9223372036854775807 := by simp only [maxLen] at h63; omega
  have holds : ∀ j u, xs[j]? = some u → w.cell? ((⟨g, 0, none⟩ : Addr).add j) = some u := fun j u hj => by
    have e0 : (⟨g, 0, none⟩ : Addr).add j = ⟨g, j, none⟩ := by unfold Addr.add; split <;> simp_all
    rw [e0]
    exact hrow.cell hj
  obtain ⟨cur, hg, hcs, hnc, hcm, htake⟩ := hrow
  have hl' : news.length = m * i.size := by rw [hsize, Nat.mul_one, hl]
  by_cases hroom : xs.length + m ≤ cap
  · have hr := run_append_room (P := P) w t ty e i ht hi g xs.length cap cur hg a m c news hl' hnews h1 hroom (by rw [hsize, Nat.mul_one, hl, hcs]; exact hroom)
    refine ⟨g, cap, _, hr, ⟨_, setRow_heap w g cur _ e _ hg, ?_, by rw [List.length_append, hl]; exact hroom, hcm, ?_⟩, ⟨rfl, rfl, rfl, by simp, fun k _ hk => setRow_other w g k _ (fun e => hk (by simp [e]))⟩, .inl rfl, fun _ => ⟨rfl, rfl⟩⟩
    · simp only [List.size_toArray, List.length_append, List.length_take, List.length_drop, Array.length_toList, hsize, Nat.mul_one]
      omega
    · rw [hsize, Nat.mul_one, htake]
      exact List.take_left
  · have hr := run_append_grow (P := P) w t ty e i z ht hi hz ⟨g, 0, none⟩ xs.length cap xs (by rw [hsize, Nat.mul_one]) holds a m c news hl' hnews (by omega) (by omega) (growslice_fits (by omega) hbytes)
    have hge := grownCap_ge w (xs.length + m) cap e
    have hcm' : grownCap w (xs.length + m) cap e ≤ maxLen := grownCap_le_maxLen w (xs.length + m) cap e h63
    refine ⟨_, _, _, hr, ⟨_, heap_alloc_new w.drew _, ?_, by rw [List.length_append, hl]; exact hge, hcm', ?_⟩, ⟨rfl, rfl, rfl, by simp, fun k hk _ => Deep.blk_alloc_lt w.drew _ k hk⟩, .inr rfl, fun h => absurd h hroom⟩
    · simp only [Array.size_append, List.size_toArray, size_zeroCells, hzs, hl]
      omega
    · simp only [Array.toList_append, List.append_assoc]
      rw [← List.append_assoc]
      exact List.take_left

theorem wpList_append_row {ops : Array Oper} {rest : List Oper} {o : Oper} {a : Act} {Q : Exit → Act → World → Prop} (hgd : o.guard = none) (s x : Operand) (t : TypeId)
    (ho : o.op = .call { callee := .builtin .append, args := #[s, x], argTypes := #[t, t] })
    (e : TypeId) (i : TypeInfo) (z : Value) (bytes : Nat) (ht : P.underlying t = some (.slice e)) (hi : P.info? e = some i) (hz : i.zero = some z)
    (hsize : i.size = 1) (hby : i.bytes = bytes) (hzs : z.cells.size = 1) (g cap n : Nat) (xs : List Value) (hn : xs.length = n) (hs : a.eval s = .slice (some ⟨g, 0, none⟩) n cap) (hrow : Row w g e cap xs)
    (ad : Addr) (m c : Nat) (news : List Value) (hx : a.eval x = .slice (some ad) m c) (hl : news.length = m) (hnews : ∀ j u, news[j]? = some u → w.cell? (ad.add j) = some u) (h1 : ∀ u ∈ news, u.oneCell' = true)
    (h63 : n + m ≤ maxLen) (hbytes : (n + m) * bytes ≤ 140737488355328)
    (h : ∀ g' cap' w', Row w' g' e cap' (xs ++ news) → w.grownBy w' (some g) → (g' = g ∨ g' = w.heap.size) → (n + m ≤ cap → g = g' ∧ cap = cap') → wpList P ops Q rest (a.put o.dst (.slice (some ⟨g', 0, none⟩) (n + m) cap')) w') : wpList P ops Q (o :: rest) a w := by
  subst hn
  refine wpList_plain hgd fun K hK => ?_
  obtain ⟨g', cap', w', hr, h2, h3, h4, h5⟩ := run_append_row (P := P) w t o.type e i z bytes ht hi hz hsize hby hzs g cap xs hrow ad m c news hl hnews h1 h63 hbytes
  unfold Oper.wp execOp
  simp only [ho, resolve, invoke, builtin, Sem.run_bind, Sem.run_pure, Result.andThen_ok, List.map_toArray, List.map_cons, List.map_nil, hs, hx, hr]
  exact hK _ _ (h g' cap' w' h2 h3 h4 h5)
end
end Go.Proofs.Qxb6600152a
