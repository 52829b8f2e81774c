namespace Go.Proofs.Qxb6600096a.Plain

/-- no backslash (92) stands last without a byte after it -/
def wf : List UInt8 → Bool
  | [] => true
  | [c] => c != 92
  | c :: d :: t => if c = 92 then wf t else wf (d :: t)

/-- each backslash dropped and the byte after it kept -/
def un : List UInt8 → List UInt8
  | [] => []
  | [c] => [c]
  | c :: d :: t => if c = 92 then d :: un t else c :: un (d :: t)

theorem wf_one (c : UInt8) (h : c = 92) : wf [c] = false := by simp [wf, h]
theorem wf_bs {c d : UInt8} {t : List UInt8} (h : c = 92) : wf (c :: d :: t) = wf t := by simp [wf, h]
theorem wf_other {c : UInt8} {t : List UInt8} (h : c ≠ 92) : wf (c :: t) = wf t := by
  cases t with
  | nil => simp [wf, h]
  | cons d t => simp [wf, h]
theorem un_bs {c d : UInt8} {t : List UInt8} (h : c = 92) : un (c :: d :: t) = d :: un t := by simp [un, h]
theorem un_other {c : UInt8} {t : List UInt8} (h : c ≠ 92) : un (c :: t) = c :: un t := by
  cases t with
  | nil => simp [un]
  | cons d t => simp [un, h]

theorem laws (n : Nat) : ∀ l : List UInt8, l.length ≤ n → wf l = true →
    (un l).length ≤ l.length ∧ l.length ≤ 2 * (un l).length ∧ ((92 : UInt8) ∈ l → (un l).length < l.length) ∧ ((92 : UInt8) ∉ l → un l = l) := by
  induction n with
  | zero =>
    intro l hl _
    have : l = [] := by cases l with | nil => rfl | cons _ _ => simp at hl
    subst this
    simp [un]
  | succ n ih =>
    intro l hl hw
    cases l with
    | nil => simp [un]
    | cons c t =>
      by_cases hc : c = 92
      · cases t with
        | nil => rw [wf_one c hc] at hw; cases hw
        | cons d t =>
          rw [wf_bs hc] at hw
          simp only [List.length_cons] at hl
          obtain ⟨h1, h2, _, _⟩ := ih t (by omega) hw
          rw [un_bs hc]
          refine ⟨by simp only [List.length_cons]; omega, by simp only [List.length_cons]; omega, fun _ => by simp only [List.length_cons]; omega, fun h => absurd (by simp [hc]) h⟩
      · rw [wf_other hc] at hw
        simp only [List.length_cons] at hl
        obtain ⟨h1, h2, h3, h4⟩ := ih t (by omega) hw
        rw [un_other hc]
        refine ⟨by simp only [List.length_cons]; omega, by simp only [List.length_cons]; omega, fun h => ?_, fun h => ?_⟩
        · have : (92 : UInt8) ∈ t := by
            rcases List.mem_cons.1 h with e | e
            · exact absurd e.symm hc
            · exact e
          have := h3 this
          simp only [List.length_cons]; omega
        · rw [h4 (fun e => h (List.mem_cons_of_mem _ e))]

end Go.Proofs.Qxb6600096a.Plain
