namespace Go.Proofs.Qxb6603582a

/-! ### Plain: times apart, prefixes: no Go in sight -/

/-- Is b more than d after a? -/
def apartB (a b d : Int) : Bool := decide (d < b - a)
theorem apartB_iff {a b d : Int} : apartB a b d = true ↔ d < b - a := by simp [apartB]
theorem apartB_no {a b d : Int} : apartB a b d = false ↔ b - a ≤ d := by simp [apartB]

/-- The ends never descend. -/
def Asc (n : Nat) (E : Nat → Int) : Prop := ∀ i j, i ≤ j → j < n → E i ≤ E j
theorem asc_of_step (n : Nat) (C : Nat → Int) (h : ∀ i, 0 < i → i < n → C (i - 1) ≤ C i) : Asc n C := by
  intro i j hij hj
  induction j with
  | zero => have : i = 0 := by omega
            subst this; exact Int.le_refl _
  | succ j ih =>
    by_cases e : i = j + 1
    · subst e; exact Int.le_refl _
    · have h1 := ih (by omega) (by omega)
      have h2 := h (j + 1) (by omega) hj
      simp at h2
      omega

/-- How many of the first m lead with 'apart from x'. -/
def lead (E : Nat → Int) (d x : Int) : Nat → Nat
  | 0 => 0
  | m + 1 => if lead E d x m = m ∧ apartB (E m) x d = true then m + 1 else lead E d x m
theorem lead_le (E : Nat → Int) (d x : Int) (m : Nat) : lead E d x m ≤ m := by
  induction m with
  | zero => exact Nat.le_refl _
  | succ m ih => unfold lead; split <;> omega
theorem lead_in (E : Nat → Int) (d x : Int) (m i : Nat) (h : i < lead E d x m) : apartB (E i) x d = true := by
  induction m with
  | zero => simp [lead] at h
  | succ m ih =>
    unfold lead at h
    split at h
    · rename_i hc
      by_cases e : i = m
      · subst e; exact hc.2
      · exact ih (by omega)
    · exact ih h
theorem lead_at (E : Nat → Int) (d x : Int) (m : Nat) (h : lead E d x m < m) : apartB (E (lead E d x m)) x d = false := by
  induction m with
  | zero => omega
  | succ m ih =>
    unfold lead at h ⊢
    split
    · rename_i hc; rw [if_pos hc] at h; omega
    · rename_i hc
      rw [if_neg hc] at h
      by_cases e : lead E d x m = m
      · have : ¬ apartB (E m) x d = true := fun hh => hc ⟨e, hh⟩
        rw [e]
        simpa using this
      · have := lead_le E d x m
        exact ih (by omega)
/-- Past the leading ones none is apart, where the ends ascend. -/
theorem lead_out (E : Nat → Int) (d x : Int) (m n i : Nat) (hA : Asc n E) (hm : m ≤ n) (h1 : lead E d x m ≤ i) (h2 : i < m) : apartB (E i) x d = false := by
  have h0 := lead_at E d x m (by omega)
  have h3 := hA (lead E d x m) i h1 (by omega)
  rw [apartB_no] at h0 ⊢
  omega

/-- The number of nodes that end more than d before node t, t counted from 1. -/
def before (E : Nat → Int) (d : Int) (t : Nat) : Nat := lead E d (E (t - 1)) (t - 1)
/-- The first of them that none of the others must follow. -/
def first (E : Nat → Int) (d : Int) (t : Nat) : Nat := lead E d (E (before E d t - 1)) (before E d t)
theorem before_lt (E : Nat → Int) (d : Int) (t : Nat) : before E d t ≤ t - 1 := lead_le _ _ _ _
theorem first_le (E : Nat → Int) (d : Int) (t : Nat) : first E d t ≤ before E d t := lead_le _ _ _ _
theorem before_in (E : Nat → Int) (d : Int) (t i : Nat) (h : i < before E d t) : apartB (E i) (E (t - 1)) d = true := lead_in _ _ _ _ _ h
theorem before_out (E : Nat → Int) (d : Int) (n t i : Nat) (hA : Asc n E) (hd : 0 ≤ d) (ht : 1 ≤ t) (htn : t ≤ n) (h : before E d t ≤ i) (hi : i < n) : apartB (E i) (E (t - 1)) d = false := by
  by_cases e : i < t - 1
  · exact lead_out E d _ (t - 1) n i hA (by omega) h e
  · have := hA (t - 1) i (by omega) hi
    rw [apartB_no]
    omega
theorem first_lt (E : Nat → Int) (d : Int) (t : Nat) (hd : 0 ≤ d) (h : 0 < before E d t) : first E d t < before E d t := by
  have h1 := first_le E d t
  by_cases e : first E d t = before E d t
  · have := lead_in E d (E (before E d t - 1)) (before E d t) (before E d t - 1) (by unfold first at e; omega)
    rw [apartB_iff] at this
    omega
  · omega
/-- i is covered exactly where it lies before 'first'. -/
theorem covered_in (E : Nat → Int) (d : Int) (t i : Nat) (h : i < first E d t) : apartB (E (before E d t - 1)) (E (t - 1)) d = true ∧ apartB (E i) (E (before E d t - 1)) d = true := by
  have h1 := first_le E d t
  exact ⟨before_in E d t _ (by omega), lead_in _ _ _ _ _ h⟩
theorem covered_out (E : Nat → Int) (d : Int) (n t i j : Nat) (hA : Asc n E) (hd : 0 ≤ d) (ht : 1 ≤ t) (htn : t ≤ n) (h : first E d t ≤ i) (hi : i < before E d t) (hj : j < n) (hj2 : apartB (E j) (E (t - 1)) d = true) : apartB (E i) (E j) d = false := by
  have hb := before_lt E d t
  have hjb : j < before E d t := by
    by_cases e : j < before E d t
    · exact e
    · have := before_out E d n t j hA hd ht htn (by omega) hj
      rw [this] at hj2; cases hj2
  have h1 := hA j (before E d t - 1) (by omega) (by omega)
  have h2 := lead_out E d (E (before E d t - 1)) (before E d t) n i hA (by omega) h hi
  rw [apartB_no] at h2 ⊢
  omega

end Go.Proofs.Qxb6603582a
