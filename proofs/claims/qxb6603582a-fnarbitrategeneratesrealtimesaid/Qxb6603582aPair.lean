import Derived.Test.Qxb6603582aBefore
namespace Go.Proofs.Qxb6603582a
open Go.ChangeShapes Go.WideShapes Go.ChangeAt Go.RowKit Go.Deep
set_option linter.unusedVariables false

theorem Try.info30 : (Try.prog.info? 30).map (fun i => (i.zero, i.size, i.bytes)) = some (some (.agg #[.int .i64 0, .int .i64 0]), 2, 16) := by kernel_rfl

theorem owns_shape2 {w : World} {base : Nat} {v : Value} {n : Nat} {xs : List Value} (h : w.ownsRow base 30 2 v n xs) (hn : 0 < n) : ∃ g cap, v = .slice (some ⟨g, 0, none⟩) n cap ∧ base ≤ g ∧ g < w.heap.size ∧ n ≤ cap ∧ ∀ j, j < n * 2 → w.cell? ⟨g, j, none⟩ = xs[j]? := by
  obtain ⟨h1, h2⟩ := id h
  rcases h2 with ⟨_, h0⟩ | ⟨g, cap, cur, rfl, hg, hh, hc, _⟩
  · omega
  · exact ⟨g, cap, rfl, hg, lt_of_block hh, hc, fun j hj => h.cellAt j hj⟩

set_option maxHeartbeats 1000000 in
theorem pair_any (bp : Nat) (pv : Value) (k : Nat) (xs : List Value) (u v : Int) (w : World) (hk : k ≤ 1048576) (hv : w.heap[bp]? = some (.cells #[pv] 27 (0, 0))) (ho : w.ownsRow (bp + 1) 30 2 pv k xs) :
    Calls Try.prog 13 #[.int .i64 u, .int .i64 v, .pointer (some ⟨bp, 0, none⟩)] w fun e w' => e = .returned (.tuple #[]) ∧ ∃ pv', w'.heap[bp]? = some (.cells #[pv'] 27 (0, 0)) ∧ w'.ownsRow (bp + 1) 30 2 pv' (k + 1) (xs ++ [.int .i64 u, .int .i64 v]) ∧ Below bp w w' := by
  obtain ⟨i0, hi, hz0, hz1, hz2⟩ := info_parts Try.info30
  have hlt := lt_of_block hv
  have c0 := cell_of_one hv
  go_enter Try.func13, Try.ntmps13
  go_wp2_with (at_builtin; refine wpList_append_own _ rfl (.tmp 5) (.tmp 9) 27 rfl (bp + 1) 30 i0 (.agg #[.int .i64 0, .int .i64 0]) 2 16 Try.underlying27 hi hz0 hz1 hz2 rfl (by decide) _ _ _ rfl (ho.alloc _) ⟨w.heap.size, 0, none⟩ 1 1 [.int .i64 u, .int .i64 v] rfl rfl ?c1 ?c2 ?c3 ?c4 ?c5 ?_)
  case c1 =>
    intro j q hj
    rw [add_plain, Nat.zero_add]
    simp only [World.cell?, blk_alloc_new]
    simpa using hj
  case c2 =>
    intro q hq
    simp at hq
    rcases hq with rfl | rfl <;> rfl
  case c3 => unfold maxLen; omega
  case c4 => omega
  case c5 => simp; omega
  intro v' w1 ho1 hg1 _
  have hne : some bp ≠ pv.ownBlock := fun e => by have := (ho.lt bp e.symm).1; omega
  have hb0 : (w.alloc (.cells #[.int .i64 u, .int .i64 v] 30)).heap[bp]? = some (.cells #[pv] 27 (0, 0)) := by rw [Below.heap_alloc _ _ _ hlt]; exact hv
  have hb1 : w1.heap[bp]? = some (.cells #[pv] 27 (0, 0)) := by rw [hg1.block bp (by simp; omega) hne]; exact hb0
  have d0 := cell_of_one hb1
  have d1 := free_of_one hb1
  have hB : Below bp w w1 := ((Below.refl bp w).alloc (by omega) _).grown hg1 (by simp; omega) (fun j hj => by have := (ho.lt j hj).1; omega)
  obtain ⟨g, cap, hv', hg, hgl, hgc, hcell⟩ := owns_shape2 ho1 (by omega)
  subst hv'
  clear hcell hg1
  go_wp2
  go_end0
  exact ⟨rfl, _, one_setCell hb1, ownsRow_setCell_below ho1 (by simp) _, hB.setCell (Nat.le_refl _) _⟩

/-- The pairs (f + 1, t), (f + 2, t), .. by their cells. -/
def pairsV (f k t : Nat) : List Value := (List.range k).flatMap fun j => [.int .i64 ((f + j : Nat) + 1), .int .i64 t]
theorem pairsV_succ (f k t : Nat) : pairsV f (k + 1) t = pairsV f k t ++ [.int .i64 ((f + k : Nat) + 1), .int .i64 t] := by simp [pairsV, List.range_succ]
theorem pairsV_length (f k t : Nat) : (pairsV f k t).length = k * 2 := by
  induction k with
  | zero => rfl
  | succ k ih => rw [pairsV_succ, List.length_append, ih]; simp; omega
theorem pairsV_at (f k t j : Nat) (h : j < k) : (pairsV f k t)[j * 2]? = some (.int .i64 ((f + j : Nat) + 1)) ∧ (pairsV f k t)[j * 2 + 1]? = some (.int .i64 t) := by
  induction k with
  | zero => omega
  | succ k ih =>
    rw [pairsV_succ]
    have hl := pairsV_length f k t
    by_cases e : j = k
    · subst e
      rw [List.getElem?_append_right (by omega), List.getElem?_append_right (by omega), hl]
      simp
    · have := ih (by omega)
      rw [List.getElem?_append_left (by omega), List.getElem?_append_left (by omega)]
      exact this
end Go.Proofs.Qxb6603582a
