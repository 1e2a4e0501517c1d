namespace Go.Proofs.Qxb6602786a

/-! ### Eligible attempts, by their numbers: no Go in sight -/

/-- The attempts: n done, q pending, each by its call, its text, whether it is placed; the bound; the register's text. -/
structure Att where
  n : Nat
  q : Nat
  D : Nat → Int
  DF : Nat → Int
  P : Nat → Bool
  E : Nat → Int
  EF : Nat → Int
  U : Nat → Bool
  bd : Int
  tx : Int

def Att.doneOk (s : Att) (c : Nat) : Bool := !s.P c && (s.DF c == s.tx) && decide (s.D c ≤ s.bd)
def Att.pendOk (s : Att) (j : Nat) : Bool := !s.U j && (s.EF j == s.tx) && decide (s.E j ≤ s.bd)
def Att.elig (s : Att) (c : Nat) : Bool := if c < s.n then s.doneOk c else if c - s.n < s.q then s.pendOk (c - s.n) else false

/-- In the order of the calls. -/
def Asc (n : Nat) (C : Nat → Int) : Prop := ∀ i j, i ≤ j → j < n → C i ≤ C j
theorem asc_of_step (n : Nat) (C : Nat → Int) (h : ∀ i, 0 < i → i < n → C (i - 1) ≤ C i) : Asc n C := by
  intro i j hij hj
  induction j with
  | zero => have : i = 0 := by omega
            subst this; exact Int.le_refl _
  | succ j ih =>
    by_cases e : i = j + 1
    · subst e; exact Int.le_refl _
    · have h1 := ih (by omega) (by omega)
      have h2 := h (j + 1) (by omega) hj
      simp at h2
      omega

/-- None of the first k that come after 'after'. -/
def Att.noneTo (s : Att) (after : Int) (k : Nat) : Prop := ∀ c : Nat, c < k → after < (c : Int) → s.elig c = false
/-- r is the least eligible number after 'after' among the first k, or -1. -/
def Att.leastTo (s : Att) (after : Int) (k : Nat) (r : Int) : Prop := (r = -1 ∧ s.noneTo after k) ∨ ∃ c : Nat, r = c ∧ c < k ∧ after < (c : Int) ∧ s.elig c = true ∧ s.noneTo after c

theorem Att.leastTo_unique (s : Att) (after : Int) (k : Nat) (r r' : Int) (h : s.leastTo after k r) (h' : s.leastTo after k r') : r = r' := by
  rcases h with ⟨h1, h2⟩ | ⟨c, h1, h2, h3, h4, h5⟩ <;> rcases h' with ⟨g1, g2⟩ | ⟨c', g1, g2, g3, g4, g5⟩
  · omega
  · have := h2 c' g2 g3; simp [g4] at this
  · have := g2 c h2 h3; simp [h4] at this
  · by_cases a : c < c'
    · have := g5 c a h3; simp [h4] at this
    · by_cases b : c' < c
      · have := h5 c' b g3; simp [g4] at this
      · omega
theorem Att.noneTo_succ (s : Att) (after : Int) (k : Nat) (h : s.noneTo after k) (hk : after < (k : Int) → s.elig k = false) : s.noneTo after (k + 1) := by
  intro c hc ha
  by_cases e : c = k
  · subst e; exact hk ha
  · exact h c (by omega) ha
theorem Att.noneTo_mono (s : Att) (after : Int) {k k' : Nat} (h : s.noneTo after k) (hk : k' ≤ k) : s.noneTo after k' := fun c hc => h c (by omega)
theorem Att.leastTo_keep (s : Att) (after : Int) (k : Nat) (r : Int) (h : s.leastTo after k r) (hr : r ≠ -1 ∨ (after < (k : Int) → s.elig k = false)) : s.leastTo after (k + 1) r := by
  rcases h with ⟨h1, h2⟩ | ⟨c, h1, h2, h3⟩
  · rcases hr with hr | hr
    · exact absurd h1 hr
    · exact .inl ⟨h1, s.noneTo_succ after k h2 hr⟩
  · exact .inr ⟨c, h1, by omega, h3⟩
theorem Att.leastTo_hit (s : Att) (after : Int) (k : Nat) (h : s.leastTo after k (-1)) (ha : after < (k : Int)) (he : s.elig k = true) : s.leastTo after (k + 1) k := by
  rcases h with ⟨h1, h2⟩ | ⟨c, h1, _⟩
  · exact .inr ⟨k, rfl, by omega, ha, he, h2⟩
  · omega
theorem Att.leastTo_lt (s : Att) (after : Int) (k : Nat) (r : Int) (h : s.leastTo after k r) : -1 ≤ r ∧ r < k := by
  rcases h with ⟨h1, h2⟩ | ⟨c, h1, h2, h3⟩ <;> omega

/-- Behind the first loop: no done attempt from i on is eligible, if the one at i is past the bound or there is none. -/
theorem Att.done_rest (s : Att) (after : Int) (i : Nat) (hasc : Asc s.n s.D) (h : s.noneTo after i) (hi : s.n ≤ i ∨ s.bd < s.D i) : s.noneTo after s.n := by
  intro c hc ha
  by_cases e : c < i
  · exact h c e ha
  · rcases hi with hi | hi
    · omega
    · have := hasc i c (by omega) hc
      simp only [Att.elig, if_pos hc, Att.doneOk]
      have hd : decide (s.D c ≤ s.bd) = false := by simp; omega
      simp [hd]
theorem Att.pend_rest (s : Att) (after : Int) (j : Nat) (hasc : Asc s.q s.E) (h : s.noneTo after (s.n + j)) (hj : s.q ≤ j ∨ s.bd < s.E j) : s.noneTo after (s.n + s.q) := by
  intro c hc ha
  by_cases e : c < s.n + j
  · exact h c e ha
  · rcases hj with hj | hj
    · omega
    · have h1 : ¬ c < s.n := by omega
      have h2 : c - s.n < s.q := by omega
      have := hasc j (c - s.n) (by omega) h2
      simp only [Att.elig, if_neg h1, if_pos h2, Att.pendOk]
      have hd : decide (s.E (c - s.n) ≤ s.bd) = false := by simp; omega
      simp [hd]
theorem Att.elig_done (s : Att) (c : Nat) (h : c < s.n) : s.elig c = s.doneOk c := by simp [Att.elig, h]
theorem Att.elig_pend (s : Att) (j : Nat) (h : j < s.q) : s.elig (s.n + j) = s.pendOk j := by
  have h1 : ¬ s.n + j < s.n := by omega
  simp [Att.elig, h1, h]
/-- The first loop starts behind what is placed. -/
theorem Att.start_done (s : Att) (after : Int) (next k : Nat) (hP : ∀ c, c < next → s.P c = true) (hk : (k : Int) = max (after + 1) next) (hn : next ≤ s.n) : s.noneTo after k := by
  intro c hc ha
  have : c < next := by omega
  rw [s.elig_done c (by omega)]
  simp [Att.doneOk, hP c this]
theorem Att.start_pend (s : Att) (after : Int) (k : Nat) (h : s.noneTo after s.n) (hk : (k : Int) = max (after + 1 - s.n) 0) : s.noneTo after (s.n + k) := by
  intro c hc ha
  by_cases e : c < s.n
  · exact h c e ha
  · omega

/-- How many of the first k are eligible. -/
def Att.count (s : Att) : Nat → Nat
  | 0 => 0
  | k + 1 => s.count k + if s.elig k then 1 else 0
theorem Att.count_le (s : Att) (k : Nat) : s.count k ≤ k := by
  induction k with
  | zero => exact Nat.le_refl _
  | succ k ih => unfold Att.count; split <;> omega
/-- Over numbers that are not eligible the count stands. -/
theorem Att.count_none (s : Att) (k r : Nat) (h : ∀ c, k ≤ c → c < k + r → s.elig c = false) : s.count (k + r) = s.count k := by
  induction r with
  | zero => rfl
  | succ r ih =>
    show s.count (k + r) + (if s.elig (k + r) then 1 else 0) = _
    rw [ih (fun c h1 h2 => h c h1 (by omega)), h (k + r) (by omega) (by omega)]
    simp
theorem Att.count_step (s : Att) (k c : Nat) (hkc : k ≤ c) (h : ∀ x, k ≤ x → x < c → s.elig x = false) (hc : s.elig c = true) : s.count (c + 1) = s.count k + 1 := by
  show s.count c + (if s.elig c then 1 else 0) = _
  have := s.count_none k (c - k) (fun x h1 h2 => h x h1 (by omega))
  rw [show k + (c - k) = c from by omega] at this
  rw [this, hc]
  simp
theorem Att.count_end (s : Att) (k m : Nat) (hkm : k ≤ m) (h : ∀ x, k ≤ x → x < m → s.elig x = false) : s.count m = s.count k := by
  have := s.count_none k (m - k) (fun x h1 h2 => h x h1 (by omega))
  rwa [show k + (m - k) = m from by omega] at this

end Go.Proofs.Qxb6602786a
