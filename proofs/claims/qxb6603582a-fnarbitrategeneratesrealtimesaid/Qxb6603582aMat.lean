import Derived.Test.Qxb6603582aPre
namespace Go.Proofs.Qxb6603582a
open Go.ChangeShapes Go.WideShapes Go.ChangeAt Go.RowKit Go.Deep
set_option linter.unusedVariables false

/-! ### Plain: what the columns come to -/
/-- Column t of the matrix behind k pairs, the first of them node f. -/
def colT (E : Nat → Int) (d : Int) (f : Nat) : Nat → Nat → Bool
  | 0, _ => false
  | k + 1, x => colT E d f k x || (x == f + k) || apartB (E x) (E (f + k)) d
theorem colT_iff (E : Nat → Int) (d : Int) (f k x : Nat) : colT E d f k x = true ↔ ∃ j, j < k ∧ (x = f + j ∨ apartB (E x) (E (f + j)) d = true) := by
  induction k with
  | zero => simp [colT]
  | succ k ih =>
    simp only [colT, Bool.or_eq_true, ih, beq_iff_eq]
    constructor
    · rintro ((⟨j, h1, h2⟩ | h) | h)
      · exact ⟨j, by omega, h2⟩
      · exact ⟨k, by omega, .inl h⟩
      · exact ⟨k, by omega, .inr h⟩
    · rintro ⟨j, h1, h2⟩
      by_cases e : j = k
      · subst e
        rcases h2 with h2 | h2
        · exact .inl (.inr h2)
        · exact .inr h2
      · exact .inl (.inl ⟨j, by omega, h2⟩)
theorem col_final (E : Nat → Int) (d : Int) (n τ x : Nat) (hA : Asc n E) (hd : 0 ≤ d) (hτ : τ < n) (hx : x < n) :
    colT E d (first E d (τ + 1)) (before E d (τ + 1) - first E d (τ + 1)) x = apartB (E x) (E τ) d := by
  rw [Bool.eq_iff_iff, colT_iff]
  have hfb := first_le E d (τ + 1)
  have hbt := before_lt E d (τ + 1)
  constructor
  · rintro ⟨j, h1, h2⟩
    have hb := before_in E d (τ + 1) (first E d (τ + 1) + j) (by omega)
    rcases h2 with rfl | h2
    · exact hb
    · rw [apartB_iff] at hb h2 ⊢
      simp only [Nat.add_sub_cancel] at hb
      omega
  · intro h
    have hxb : x < before E d (τ + 1) := by
      by_cases e : x < before E d (τ + 1)
      · exact e
      · have := before_out E d n (τ + 1) x hA hd (by omega) (by omega) (by omega) hx
        simp only [Nat.add_sub_cancel] at this
        rw [h] at this; cases this
    by_cases hxf : x < first E d (τ + 1)
    · have hlt := first_lt E d (τ + 1) hd (by omega)
      refine ⟨before E d (τ + 1) - 1 - first E d (τ + 1), by omega, .inr ?_⟩
      rw [show first E d (τ + 1) + (before E d (τ + 1) - 1 - first E d (τ + 1)) = before E d (τ + 1) - 1 from by omega]
      exact (covered_in E d (τ + 1) x hxf).2
    · exact ⟨x - first E d (τ + 1), by omega, .inl (by omega)⟩

/-! ### The matrix in memory -/
/-- Block br is an n by n matrix of bools, by rows. -/
def Mat (w : World) (br n : Nat) (R : Nat → Nat → Bool) : Prop := ∃ F, w.rowIs br 4 (n * n) F ∧ ∀ x y, x < n → y < n → F (x * n + y) = .bool (R x y)
theorem lin_lt {n x y : Nat} (hx : x < n) (hy : y < n) : x * n + y < n * n := by
  have h1 : (x + 1) * n ≤ n * n := Nat.mul_le_mul_right n hx
  rw [Nat.add_mul] at h1
  omega
theorem lin_inj {n x y x' y' : Nat} (hy : y < n) (hy' : y' < n) (h : x' * n + y' = x * n + y) : x' = x ∧ y' = y := by
  have h1 : (x' * n + y') / n = (x * n + y) / n := by rw [h]
  have h2 : (x' * n + y') % n = (x * n + y) % n := by rw [h]
  rw [Nat.mul_comm x', Nat.mul_comm x, Nat.mul_add_div (by omega), Nat.mul_add_div (by omega), Nat.div_eq_of_lt hy, Nat.div_eq_of_lt hy'] at h1
  rw [Nat.mul_comm x', Nat.mul_comm x, Nat.mul_add_mod, Nat.mul_add_mod, Nat.mod_eq_of_lt hy, Nat.mod_eq_of_lt hy'] at h2
  omega
theorem Mat.cell {w : World} {br n : Nat} {R : Nat → Nat → Bool} (h : Mat w br n R) {x y : Nat} (hx : x < n) (hy : y < n) : w.cell? ⟨br, x * n + y, none⟩ = some (.bool (R x y)) := by
  obtain ⟨F, r, g⟩ := h
  rw [r.cell (lin_lt hx hy), g x y hx hy]
theorem Mat.frozen {w : World} {br n : Nat} {R : Nat → Nat → Bool} (h : Mat w br n R) (i : Nat) : w.frozen? ⟨br, i, none⟩ = false := by
  obtain ⟨F, r, g⟩ := h
  exact r.frozen i
theorem Mat.lt {w : World} {br n : Nat} {R : Nat → Nat → Bool} (h : Mat w br n R) : br < w.heap.size := by
  obtain ⟨F, r, g⟩ := h
  exact r.lt
theorem Mat.congr {w : World} {br n : Nat} {R R' : Nat → Nat → Bool} (h : Mat w br n R) (e : ∀ x y, x < n → y < n → R x y = R' x y) : Mat w br n R' := by
  obtain ⟨F, r, g⟩ := h
  exact ⟨F, r, fun x y hx hy => by rw [g x y hx hy, e x y hx hy]⟩
theorem Mat.of_block {w w' : World} {br n : Nat} {R : Nat → Nat → Bool} (h : Mat w br n R) (e : w'.heap[br]? = w.heap[br]?) : Mat w' br n R := by
  obtain ⟨F, r, g⟩ := h
  exact ⟨F, r.of_block e, g⟩
theorem Mat.set {w : World} {br n : Nat} {R : Nat → Nat → Bool} (h : Mat w br n R) {x y : Nat} (hx : x < n) (hy : y < n) : Mat (w.setCell ⟨br, x * n + y, none⟩ (.bool true)) br n (fun x' y' => (x' == x && y' == y) || R x' y') := by
  obtain ⟨F, r, g⟩ := h
  refine ⟨_, r.set (x * n + y) _, fun x' y' hx' hy' => ?_⟩
  by_cases e : x' * n + y' = x * n + y
  · obtain ⟨rfl, rfl⟩ := lin_inj hy hy' e
    simp
  · rw [if_neg e, g x' y' hx' hy']
    have : (x' == x && y' == y) = false := by
      by_cases e1 : x' = x
      · by_cases e2 : y' = y
        · subst e1 e2; exact absurd rfl e
        · simp [e2]
      · simp [e1]
    show Value.bool (R x' y') = Value.bool ((x' == x && y' == y) || R x' y')
    rw [this]; simp
theorem mat_made (w : World) (n : Nat) : Mat (w.alloc (.cells (madeCells #[.bool false] (n * n)) 4)) w.heap.size n (fun _ _ => false) :=
  ⟨_, World.rowIs_made w (.bool false) (n * n) 4, fun _ _ _ _ => rfl⟩

/-- Nothing but block r has turned. -/
structure But (r : Nat) (w w' : World) : Prop where
  os : w'.os = w.os
  tape : w'.tape = w.tape
  output : w'.output = w.output
  size : w'.heap.size = w.heap.size
  block : ∀ k, k ≠ r → w'.heap[k]? = w.heap[k]?
theorem But.refl (r : Nat) (w : World) : But r w w := ⟨rfl, rfl, rfl, rfl, fun _ _ => rfl⟩
theorem But.setCell {r : Nat} {w w' : World} (h : But r w w') (i : Nat) (v : Value) : But r w (w'.setCell ⟨r, i, none⟩ v) :=
  ⟨h.os, h.tape, h.output, by simp [World.setCell, h.size], fun k hk => (Below.heap_setCell _ _ _ _ hk).trans (h.block k hk)⟩
theorem But.cell {r : Nat} {w w' : World} (h : But r w w') {p : Addr} {v : Value} (hp : p.block ≠ r) (hc : w.cell? p = some v) : w'.cell? p = some v := by
  rw [World.cell?_of_block (w := w) (h.block _ hp)]; exact hc
theorem But.below {r B : Nat} {w w' : World} (h : But r w w') (hB : B ≤ r) : Below B w w' := ⟨h.os, h.tape, h.output, by rw [h.size]; exact Nat.le_refl _, fun k hk => h.block k (by omega)⟩

/-- The matrix ahead of node τ + 1: its columns below τ are done. -/
def R1 (E : Nat → Int) (d : Int) (τ x y : Nat) : Bool := decide (y < τ) && apartB (E x) (E y) d
/-- .. behind k of its pairs. -/
def R2 (E : Nat → Int) (d : Int) (τ f k x y : Nat) : Bool := if y = τ then colT E d f k x else R1 E d τ x y
/-- .. in the midst of pair k, behind x0 rows. -/
def R3 (E : Nat → Int) (d : Int) (τ f k x0 x y : Nat) : Bool := if y = τ then colT E d f k x || (x == f + k) || (decide (x < x0) && apartB (E x) (E (f + k)) d) else R1 E d τ x y
theorem R1_zero (E : Nat → Int) (d : Int) (x y : Nat) : R1 E d 0 x y = false := by simp [R1]
theorem R12 (E : Nat → Int) (d : Int) (τ f x y : Nat) : R1 E d τ x y = R2 E d τ f 0 x y := by
  unfold R2
  split
  · rename_i h; subst h; simp [R1, colT]
  · rfl
theorem R23 (E : Nat → Int) (d : Int) (τ f k x y : Nat) : ((x == f + k && y == τ) || R2 E d τ f k x y) = R3 E d τ f k 0 x y := by
  unfold R2 R3
  by_cases h : y = τ
  · subst h; simp [Bool.or_comm]
  · simp [h]
theorem R33_yes (E : Nat → Int) (d : Int) (τ f k x0 x y : Nat) (h : apartB (E x0) (E (f + k)) d = true) : ((x == x0 && y == τ) || R3 E d τ f k x0 x y) = R3 E d τ f k (x0 + 1) x y := by
  unfold R3
  by_cases hy : y = τ
  · subst hy
    by_cases hx : x = x0
    · subst hx; simp [h]
    · have e1 : (x == x0) = false := by simpa using hx
      have e2 : decide (x < x0 + 1) = decide (x < x0) := by simp; omega
      simp [e1, e2]
  · simp [hy]
theorem R33_no (E : Nat → Int) (d : Int) (τ f k x0 x y : Nat) (h : apartB (E x0) (E (f + k)) d = false) : R3 E d τ f k x0 x y = R3 E d τ f k (x0 + 1) x y := by
  unfold R3
  by_cases hy : y = τ
  · subst hy
    by_cases hx : x = x0
    · subst hx; simp [h]
    · have e2 : decide (x < x0 + 1) = decide (x < x0) := by simp; omega
      simp [e2]
  · simp [hy]
theorem R32 (E : Nat → Int) (d : Int) (τ f k n x y : Nat) (hx : x < n) : R3 E d τ f k n x y = R2 E d τ f (k + 1) x y := by
  unfold R3 R2
  by_cases hy : y = τ
  · subst hy; simp [colT, hx]
  · simp [hy]
theorem R21 (E : Nat → Int) (d : Int) (n τ x y : Nat) (hA : Asc n E) (hd : 0 ≤ d) (hτ : τ < n) (hx : x < n) :
    R2 E d τ (first E d (τ + 1)) (before E d (τ + 1) - first E d (τ + 1)) x y = R1 E d (τ + 1) x y := by
  unfold R2
  by_cases hy : y = τ
  · subst hy
    rw [if_pos rfl, col_final E d n y x hA hd hτ hx]
    simp [R1]
  · rw [if_neg hy]
    have e : decide (y < τ + 1) = decide (y < τ) := by simp; omega
    simp [R1, e]
theorem R1_at (E : Nat → Int) (d : Int) (n x y : Nat) (hy : y < n) : R1 E d n x y = apartB (E x) (E y) d := by simp [R1, hy]
theorem R3_old (E : Nat → Int) (d : Int) (τ f k x0 x y : Nat) (hy : y < τ) : R3 E d τ f k x0 x y = apartB (E x) (E y) d := by
  have : y ≠ τ := by omega
  simp [R3, R1, this, hy]
end Go.Proofs.Qxb6603582a
