import Derived.Test.Qxb6603582aPair
namespace Go.Proofs.Qxb6603582a
open Go.ChangeShapes Go.WideShapes Go.ChangeAt Go.RowKit Go.Deep
set_option linter.unusedVariables false

def txnC : Array Value := #[.int .u8 0, .int .i64 0, .string ByteArray.empty, .bool false, .pointer none, .pointer none, .slice none 0 0]
def txnZ : Value := .agg txnC
theorem Try.info42 : (Try.prog.info? 42).map (fun i => (i.zero, i.size, i.bytes)) = some (some txnZ, 7, 80) := by kernel_rfl
theorem run_make_txn (n : Nat) (h : n ≤ 1048576) (w : World) : (Instr.makeSlice 33 (.int .i64 (n : Int)) (.int .i64 (n : Int))).run Try.prog w = .ok (.slice (some ⟨w.heap.size, 0, none⟩) n n) (w.alloc (.cells (madeCells txnC (n * 7)) 42)) := by
  obtain ⟨i, hi, hz, hs, hb⟩ := info_parts Try.info42
  have hr := run_make (P := Try.prog) w 33 42 i txnZ Try.underlying33 hi hz .i64 .i64 n n (by omega) (Int.le_refl _) (by rw [hb]; omega) (by omega)
  simp only [Int.toNat_natCast, hs] at hr
  exact hr
theorem txn_made (w : World) (n : Nat) : ∃ f, (w.alloc (.cells (madeCells txnC (n * 7)) 42)).rowIs w.heap.size 42 (n * 7) f :=
  ⟨fun i => (madeCells txnC (n * 7))[i]!, _, blk_alloc_new _ _, size_madeCells _ _, fun i hi => by
    have : i < (madeCells txnC (n * 7)).size := by rw [size_madeCells]; exact hi
    simp [this]⟩

theorem al3 {w : World} {a : Addr} {v : Value} (h : w.cell? a = some v) (o1 o2 o3 : Obj) : (((w.alloc o1).alloc o2).alloc o3).cell? a = some v := by
  have hlt := World.block_lt_of_cell? _ _ h
  rw [World.cell?_alloc_lt _ _ _ (by simp; omega), World.cell?_alloc_lt _ _ _ (by simp; omega), World.cell?_alloc_lt _ _ _ hlt]
  exact h
theorem fz3 {w : World} {a : Addr} (hlt : a.block < w.heap.size) (h : w.frozen? a = false) (o1 o2 o3 : Obj) : (((w.alloc o1).alloc o2).alloc o3).frozen? a = false := by
  rw [World.frozen?_of_block (w := w)]
  · exact h
  · rw [Below.heap_alloc _ _ _ (by simp; omega), Below.heap_alloc _ _ _ (by simp; omega), Below.heap_alloc _ _ _ hlt]

/-- What the loop of ZZarbitrate has built behind k rounds; B: the heap's size when it began. -/
structure Built (B : Nat) (wr : World) (n k : Nat) (E : Nat → Int) (pf : Nat → Nat) : Prop where
  r1 : ∃ f, wr.rowIs B 42 (n * 7) f ∧ ∀ i, i < k → f (i * 7 + 5) = .pointer (some ⟨pf i, 0, none⟩)
  r2 : ∃ f, wr.rowIs (B + 1) 3 n f ∧ ∀ i, i < k → f i = .int .i64 ((i : Int) + 1)
  r3 : ∃ f, wr.rowIs (B + 1 + 1 + 1) 3 (n + 1) f ∧ ∀ i, i < k → f (i + 1) = .int .i64 i
  en : ∀ i, i < k → B + 4 ≤ pf i ∧ wr.cell? ⟨pf i, 0, none⟩ = some (.int .i64 (E i))
  sz : B + 4 ≤ wr.heap.size

def txnW (w : World) (B k : Nat) (e : Int) : World :=
  ((((((((((((w.alloc (.cells #[.int .i64 e] 2)).alloc (.cells #[.int .u8 1, .int .i64 0, .string ⟨#[]⟩] 37)).alloc (.cells #[] 88)).setCell ⟨B, k * 7, none⟩ (.int .u8 1)).setCell ⟨B, k * 7 + 1, none⟩ (.int .i64 0)).setCell ⟨B, k * 7 + 2, none⟩ (.string ⟨#[]⟩)).setCell ⟨B, k * 7 + 3, none⟩ (.bool false)).setCell ⟨B, k * 7 + 4, none⟩ (.pointer none)).setCell ⟨B, k * 7 + 5, none⟩ (.pointer (some ⟨w.heap.size, 0, none⟩))).setCell ⟨B, k * 7 + 6, none⟩ (.slice (some ⟨w.heap.size + 1 + 1, 0, none⟩) 0 0)).setCell ⟨B + 1, k, none⟩ (.int .i64 ((k : Int) + 1))).setCell ⟨B + 1 + 1 + 1, k + 1, none⟩ (.int .i64 k))

theorem cell_set_far {w : World} {p q : Addr} {v u : Value} (h : w.cell? p = some v) (hne : p.block ≠ q.block) : (w.setCell q u).cell? p = some v := by
  rw [World.cell?_of_block (w := w)]
  · exact h
  · exact Below.heap_setCell _ _ _ _ hne

theorem built_step {B : Nat} {wr : World} {n k : Nat} {E : Nat → Int} {pf : Nat → Nat} (h : Built B wr n k E pf) (hk : k < n) :
    Built B (txnW wr B k (E k)) n (k + 1) E (fun i => if i = k then wr.heap.size else pf i) := by
  obtain ⟨⟨f1, r1, g1⟩, ⟨f2, r2, g2⟩, ⟨f3, r3, g3⟩, en, sz⟩ := h
  refine ⟨?_, ?_, ?_, ?_, ?_⟩
  · refine ⟨_, ((((((((((((r1.alloc _).alloc _).alloc _).set (k * 7) _).set (k * 7 + 1) _).set (k * 7 + 2) _).set (k * 7 + 3) _).set (k * 7 + 4) _).set (k * 7 + 5) _).set (k * 7 + 6) _).setOther (by simp) _).setOther (by simp; omega) _), ?_⟩
    intro i hi
    by_cases e : i = k
    · subst e; simp
    · rw [if_neg (by omega), if_neg (by omega), if_neg (by omega), if_neg (by omega), if_neg (by omega), if_neg (by omega), if_neg (by omega), g1 i (by omega), if_neg e]
  · refine ⟨_, ((((((((((((r2.alloc _).alloc _).alloc _).setOther (by simp) _).setOther (by simp) _).setOther (by simp) _).setOther (by simp) _).setOther (by simp) _).setOther (by simp) _).setOther (by simp) _).set k _).setOther (by simp) _), ?_⟩
    intro i hi
    by_cases e : i = k
    · subst e; simp
    · rw [if_neg e, g2 i (by omega)]
  · refine ⟨_, ((((((((((((r3.alloc _).alloc _).alloc _).setOther (by simp; omega) _).setOther (by simp; omega) _).setOther (by simp; omega) _).setOther (by simp; omega) _).setOther (by simp; omega) _).setOther (by simp; omega) _).setOther (by simp; omega) _).setOther (by simp; omega) _).set (k + 1) _), ?_⟩
    intro i hi
    by_cases e : i = k
    · subst e; simp
    · rw [if_neg (by omega), g3 i (by omega)]
  · intro i hi
    by_cases e : i = k
    · subst e
      rw [if_pos rfl]
      refine ⟨sz, ?_⟩
      have c : ((wr.alloc (.cells #[.int .i64 (E i)] 2)).alloc (.cells #[.int .u8 1, .int .i64 0, .string ⟨#[]⟩] 37)).cell? ⟨wr.heap.size, 0, none⟩ = some (.int .i64 (E i)) := by
        rw [World.cell?_alloc_lt _ _ _ (by simp)]
        simp only [World.cell?, blk_alloc_new]; rfl
      have c3 : (((wr.alloc (.cells #[.int .i64 (E i)] 2)).alloc (.cells #[.int .u8 1, .int .i64 0, .string ⟨#[]⟩] 37)).alloc (.cells #[] 88)).cell? ⟨wr.heap.size, 0, none⟩ = some (.int .i64 (E i)) := by
        rw [World.cell?_alloc_lt _ _ _ (by simp; omega)]; exact c
      exact cell_set_far (cell_set_far (cell_set_far (cell_set_far (cell_set_far (cell_set_far (cell_set_far (cell_set_far (cell_set_far c3 (by simp; omega)) (by simp; omega)) (by simp; omega)) (by simp; omega)) (by simp; omega)) (by simp; omega)) (by simp; omega)) (by simp; omega)) (by simp; omega)
    · rw [if_neg e]
      obtain ⟨h1, h2⟩ := en i (by omega)
      refine ⟨h1, ?_⟩
      exact cell_set_far (cell_set_far (cell_set_far (cell_set_far (cell_set_far (cell_set_far (cell_set_far (cell_set_far (cell_set_far (al3 h2 _ _ _) (by simp; omega)) (by simp; omega)) (by simp; omega)) (by simp; omega)) (by simp; omega)) (by simp; omega)) (by simp; omega)) (by simp; omega)) (by simp; omega)
  · simp [txnW, World.setCell]
    omega
theorem txnW_below {w wr : World} {B k : Nat} {e : Int} (h : Below B w wr) (hs : B + 4 ≤ wr.heap.size) : Below B w (txnW wr B k e) := by
  unfold txnW
  refine Below.setCell (Below.setCell (Below.setCell (Below.setCell (Below.setCell (Below.setCell (Below.setCell (Below.setCell (Below.setCell (((h.alloc (by omega) _).alloc (by simp; omega) _).alloc (by simp; omega) _) ?_ _) ?_ _) ?_ _) ?_ _) ?_ _) ?_ _) ?_ _) ?_ _) ?_ _ <;> simp <;> omega

end Go.Proofs.Qxb6603582a
