import Derived.Test.Qxb6602786aBase
namespace Go.Proofs.Qxb6602786a
open Go.ChangeShapes Go.WideShapes Go.ChangeAt Go.RowKit Go.Deep

def attZ : Value := .agg #[.int .i64 0, .int .i64 0, .bool false, .int .i64 0, .int .i64 0]
theorem Try.info44 : (Try.prog.info? 44).map (fun i => (i.zero, i.size, i.bytes)) = some (some attZ, 5, 40) := by kernel_rfl

theorem run_make_att (n : Nat) (h : n ≤ 1048576) (w : World) : (Instr.makeSlice 42 (.int .i64 (n : Int)) (.int .i64 (n : Int))).run Try.prog w = .ok (.slice (some ⟨w.heap.size, 0, none⟩) n n) (w.alloc (.cells (madeCells #[.int .i64 0, .int .i64 0, .bool false, .int .i64 0, .int .i64 0] (n * 5)) 44)) := by
  obtain ⟨i, hi, hz, hs, hb⟩ := info_parts Try.info44
  have hr := run_make (P := Try.prog) w 42 44 i attZ Try.underlying42 hi hz .i64 .i64 n n (by omega) (Int.le_refl _) (by rw [hb]; omega) (by omega)
  simp only [Int.toNat_natCast, hs] at hr
  exact hr

/-- Field f of an attempt: its call, 0, cas, from, 0. -/
def attF (c m : Int) (s : Bool) : Nat → Value
  | 0 => .int .i64 c
  | 2 => .bool s
  | 3 => .int .i64 m
  | _ => .int .i64 0
/-- A row of attempts by the cell. -/
def attV (C M : Nat → Int) (S : Nat → Bool) (i : Nat) : Value := attF (C (i / 5)) (M (i / 5)) (S (i / 5)) (i % 5)
def cut (k : Nat) (C : Nat → Int) (i : Nat) : Int := if i < k then C i else 0
def cutB (k : Nat) (C : Nat → Bool) (i : Nat) : Bool := if i < k then C i else false
def attK (C M : Nat → Int) (S : Nat → Bool) (k : Nat) : Nat → Value := attV (cut k C) (cut k M) (cutB k S)

theorem att_made (w : World) (C M : Nat → Int) (S : Nat → Bool) (n : Nat) : (w.alloc (.cells (madeCells #[.int .i64 0, .int .i64 0, .bool false, .int .i64 0, .int .i64 0] (n * 5)) 44)).rowIs w.heap.size 44 (n * 5) (attK C M S 0) := by
  refine ⟨_, blk_alloc_new _ _, size_madeCells _ _, fun i hi => ?_⟩
  simp only [madeCells, List.size_toArray, List.length_cons, List.length_nil]
  have h5 : i % 5 < 5 := Nat.mod_lt _ (by omega)
  simp [hi, attK, attV, cut, cutB]
  have : i % 5 = 0 ∨ i % 5 = 1 ∨ i % 5 = 2 ∨ i % 5 = 3 ∨ i % 5 = 4 := by omega
  rcases this with h | h | h | h | h <;> rw [h] <;> rfl
theorem attK_at (C M : Nat → Int) (S : Nat → Bool) (k j f : Nat) (hf : f < 5) : attK C M S k (j * 5 + f) = attF (cut k C j) (cut k M j) (cutB k S j) f := by
  unfold attK attV
  have e1 : (j * 5 + f) / 5 = j := by omega
  have e2 : (j * 5 + f) % 5 = f := by omega
  rw [e1, e2]
/-- One attempt laid. -/
theorem att_step {w : World} {b n k : Nat} {C M : Nat → Int} {S : Nat → Bool} (h : w.rowIs b 44 (n * 5) (attK C M S k)) (c m : Int) (s : Bool) (hc : C k = c) (hm : M k = m) (hs : S k = s) :
    (((((w.setCell ⟨b, k * 5, none⟩ (.int .i64 c)).setCell ⟨b, k * 5 + 1, none⟩ (.int .i64 0)).setCell ⟨b, k * 5 + 2, none⟩ (.bool s)).setCell ⟨b, k * 5 + 3, none⟩ (.int .i64 m)).setCell ⟨b, k * 5 + 4, none⟩ (.int .i64 0)).rowIs b 44 (n * 5) (attK C M S (k + 1)) := by
  subst hc hm hs
  refine (((((h.set (k * 5) _).set (k * 5 + 1) _).set (k * 5 + 2) _).set (k * 5 + 3) _).set (k * 5 + 4) _).congr ?_
  intro i hi
  have hd : i = i / 5 * 5 + i % 5 := by omega
  have h5 : i % 5 < 5 := Nat.mod_lt _ (by omega)
  by_cases e : i / 5 = k
  · have : i % 5 = 0 ∨ i % 5 = 1 ∨ i % 5 = 2 ∨ i % 5 = 3 ∨ i % 5 = 4 := by omega
    rcases this with h | h | h | h | h
    all_goals
      rw [h, e] at hd
      subst hd
      first | rw [attK_at C M S (k + 1) k _ (by omega)] | (show _ = attK C M S (k + 1) (k * 5 + 0); rw [attK_at C M S (k + 1) k _ (by omega)])
      simp [attF, cut, cutB]
  · have hne : ∀ f, f < 5 → i ≠ k * 5 + f := fun f hf => by omega
    rw [if_neg (hne 4 (by omega)), if_neg (hne 3 (by omega)), if_neg (hne 2 (by omega)), if_neg (hne 1 (by omega)), if_neg (by have := hne 0 (by omega); omega)]
    rw [hd, attK_at C M S k _ _ h5, attK_at C M S (k + 1) _ _ h5]
    have e1 : (i / 5 < k + 1) = (i / 5 < k) := by apply propext; omega
    simp only [cut, cutB, e1]
theorem att_done {w : World} {b n : Nat} {C M : Nat → Int} {S : Nat → Bool} (h : w.rowIs b 44 (n * 5) (attK C M S n)) : w.rowIs b 44 (n * 5) (attV C M S) :=
  h.congr fun i hi => by
    have : i / 5 < n := by omega
    simp [attK, attV, cut, cutB, this]
theorem att_cell {w : World} {b n k : Nat} {C M : Nat → Int} {S : Nat → Bool} {q : Nat} (h : w.rowIs b 44 (n * 5) (attK C M S q)) (hk : k < n) (f : Nat) (hf : f < 5) : ∃ v, w.cell? ⟨b, k * 5 + f, none⟩ = some v := ⟨_, h.cell (by omega)⟩

theorem ownsRow_below {w w' : World} {base : Nat} {e : TypeId} {size : Nat} {v : Value} {n : Nat} {xs : List Value} (h : w.ownsRow base e size v n xs) (hb : Below w.heap.size w w') : w'.ownsRow base e size v n xs := by
  obtain ⟨h1, h2⟩ := h
  refine ⟨h1, ?_⟩
  rcases h2 with h2 | ⟨g, cap, cur, hv, hg, hh, r⟩
  · exact Or.inl h2
  · exact Or.inr ⟨g, cap, cur, hv, hg, by rw [hb.block g (lt_of_block hh)]; exact hh, r⟩
theorem row_apart {w : World} {base : Nat} {v : Value} {n : Nat} {xs : List Value} {b m : Nat} {A : Nat → Value} (h : w.ownsRow base 5 1 v n xs) (hr : w.rowIs b 44 m A) : some b ≠ v.ownBlock := by
  obtain ⟨h1, h2⟩ := h
  rcases h2 with ⟨rfl, _⟩ | ⟨g, cap, cur, rfl, hg, hh, r⟩
  · simp [Value.ownBlock]
  · obtain ⟨c, hb, _, _⟩ := hr
    simp only [Value.ownBlock, ne_eq, Option.some.injEq]
    intro e
    subst e
    rw [hh] at hb
    simp at hb
end Go.Proofs.Qxb6602786a
