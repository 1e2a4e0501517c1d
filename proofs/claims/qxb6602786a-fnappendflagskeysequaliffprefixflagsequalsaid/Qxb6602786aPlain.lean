namespace Go.Proofs.Qxb6602786a

/-! ### Plain functions: no Go in sight -/

/-- The least index from s on (d are left) whose call is later than e; else the end. -/
def pfx (C : Nat → Int) (e : Int) : Nat → Nat → Nat
  | s, 0 => s
  | s, d + 1 => if e < C s then s else pfx C e (s + 1) d
theorem pfx_ge (C : Nat → Int) (e : Int) (s d : Nat) : s ≤ pfx C e s d := by
  induction d generalizing s with
  | zero => exact Nat.le_refl _
  | succ d ih => unfold pfx; split; exact Nat.le_refl _; exact Nat.le_trans (Nat.le_succ _) (ih _)
theorem pfx_le (C : Nat → Int) (e : Int) (s d : Nat) : pfx C e s d ≤ s + d := by
  induction d generalizing s with
  | zero => exact Nat.le_refl _
  | succ d ih => unfold pfx; split; omega; have := ih (s + 1); omega
theorem pfx_below (C : Nat → Int) (e : Int) (s d j : Nat) (h1 : s ≤ j) (h2 : j < pfx C e s d) : C j ≤ e := by
  induction d generalizing s with
  | zero => simp [pfx] at h2; omega
  | succ d ih =>
    unfold pfx at h2
    split at h2
    · omega
    · by_cases e : j = s
      · subst e; omega
      · exact ih (s + 1) (by omega) h2
theorem pfx_at (C : Nat → Int) (e : Int) (s d : Nat) (h : pfx C e s d < s + d) : e < C (pfx C e s d) := by
  induction d generalizing s with
  | zero => simp [pfx] at h
  | succ d ih =>
    unfold pfx at h ⊢
    split
    · assumption
    · rename_i hn
      rw [if_neg hn] at h
      exact ih (s + 1) (by omega)
theorem pfx_stop (C : Nat → Int) (e : Int) (n : Nat) (h : e < C n) (d : Nat) : pfx C e n (d + 1) = n := by
  unfold pfx; rw [if_pos h]
theorem pfx_go (C : Nat → Int) (e : Int) (n : Nat) (h : ¬ e < C n) (d : Nat) : pfx C e n (d + 1) = pfx C e (n + 1) d := by
  conv => lhs; unfold pfx
  rw [if_neg h]

/-- t bits from place s on, the first the lowest. -/
def pack (F : Nat → Bool) (s : Nat) : Nat → Nat
  | 0 => 0
  | t + 1 => pack F s t + if F (s + t) then 2 ^ t else 0
theorem pack_lt (F : Nat → Bool) (s t : Nat) : pack F s t < 2 ^ t := by
  induction t with
  | zero => simp [pack]
  | succ t ih =>
    unfold pack
    rw [Nat.pow_succ]
    split <;> omega
theorem pack_bit (F : Nat → Bool) (s t u : Nat) (h : u < t) : (pack F s t).testBit u = F (s + u) := by
  induction t with
  | zero => omega
  | succ t ih =>
    have hl := pack_lt F s t
    unfold pack
    by_cases e : u = t
    · subst e
      split
      · rename_i hf
        rw [Nat.add_comm, Nat.testBit_two_pow_add_eq, Nat.testBit_lt_two_pow hl, hf]; rfl
      · rename_i hf
        rw [Nat.add_zero, Nat.testBit_lt_two_pow hl]
        simpa using hf
    · split
      · rw [Nat.add_comm, Nat.testBit_two_pow_add_gt (by omega), ih (by omega)]
      · rw [Nat.add_zero, ih (by omega)]
/-- Bits past the end are nought. -/
def mask (F : Nat → Bool) (m : Nat) (p : Nat) : Bool := decide (p < m) && F p
theorem pack_congr (F G : Nat → Bool) (s t : Nat) (h : ∀ u, u < t → F (s + u) = G (s + u)) : pack F s t = pack G s t := by
  induction t with
  | zero => rfl
  | succ t ih => unfold pack; rw [ih (fun u hu => h u (by omega)), h t (by omega)]
theorem pack_zero (F : Nat → Bool) (s t r : Nat) (h : ∀ u, t ≤ u → u < t + r → F (s + u) = false) : pack F s (t + r) = pack F s t := by
  induction r with
  | zero => rfl
  | succ r ih =>
    show pack F s (t + r) + (if F (s + (t + r)) then 2 ^ (t + r) else 0) = _
    rw [ih (fun u h1 h2 => h u h1 (by omega)), h (t + r) (by omega) (by omega)]
    simp
/-- The byte number j of what is appended where m flags count. -/
def byteOf (F : Nat → Bool) (m j : Nat) : Nat := pack (mask F m) (8 * j) 8
theorem byteOf_lt (F : Nat → Bool) (m j : Nat) : byteOf F m j < 256 := pack_lt _ _ 8
theorem byteOf_bit (F : Nat → Bool) (m p : Nat) : (byteOf F m (p / 8)).testBit (p % 8) = mask F m p := by
  unfold byteOf
  rw [pack_bit _ _ _ _ (Nat.mod_lt _ (by omega)), Nat.div_add_mod]
theorem byteOf_full (F : Nat → Bool) (m j : Nat) (h : 8 * j + 8 ≤ m) : byteOf F m j = pack F (8 * j) 8 :=
  pack_congr _ _ _ _ fun u hu => by simp [mask]; intro _; omega
theorem byteOf_last (F : Nat → Bool) (m : Nat) : byteOf F m (m / 8) = pack F (8 * (m / 8)) (m % 8) := by
  unfold byteOf
  have h8 : m % 8 + (8 - m % 8) = 8 := by omega
  have hz := pack_zero (mask F m) (8 * (m / 8)) (m % 8) (8 - m % 8) (fun u h1 h2 => by simp [mask]; omega)
  rw [h8] at hz
  rw [hz]
  exact pack_congr _ _ _ _ fun u hu => by simp [mask]; intro _; omega
/-- All bytes that are appended. -/
def bytesOf (F : Nat → Bool) (m : Nat) : List Nat := (List.range (m / 8 + 1)).map (byteOf F m)
/-- What has been appended while the loop stands at k. -/
def fullOf (F : Nat → Bool) (q : Nat) : List Nat := (List.range q).map fun j => pack F (8 * j) 8
theorem fullOf_succ (F : Nat → Bool) (q : Nat) : fullOf F (q + 1) = fullOf F q ++ [pack F (8 * q) 8] := by simp [fullOf, List.range_succ]
theorem bytesOf_eq (F : Nat → Bool) (m : Nat) : bytesOf F m = fullOf F (m / 8) ++ [pack F (8 * (m / 8)) (m % 8)] := by
  unfold bytesOf fullOf
  rw [List.range_succ, List.map_append, List.map_cons, List.map_nil, byteOf_last]
  congr 1
  apply List.map_congr_left
  intro j hj
  have := List.mem_range.1 hj
  exact byteOf_full F m j (by omega)
theorem bytesOf_length (F : Nat → Bool) (m : Nat) : (bytesOf F m).length = m / 8 + 1 := by simp [bytesOf]
/-- Two lists of flags give the same bytes exactly where they agree below m. -/
theorem byteOf_inj (F G : Nat → Bool) (m : Nat) (h : ∀ j, j < m / 8 + 1 → byteOf F m j = byteOf G m j) (p : Nat) (hp : p < m) : F p = G p := by
  have h1 := byteOf_bit F m p
  have h2 := byteOf_bit G m p
  rw [h (p / 8) (by omega)] at h1
  have : mask F m p = mask G m p := h1.symm.trans h2
  simpa [mask, hp] using this
theorem byteOf_congr (F G : Nat → Bool) (m : Nat) (h : ∀ p, p < m → F p = G p) (j : Nat) : byteOf F m j = byteOf G m j :=
  pack_congr _ _ _ _ fun u _ => by
    simp only [mask]
    by_cases e : 8 * j + u < m
    · rw [h _ e]
    · simp [e]

end Go.Proofs.Qxb6602786a
