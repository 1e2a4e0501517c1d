import Derived.Test.Qxb6603582aTxn
import Derived.Test.Qxb6603582aArb
namespace Go.Proofs.Qxb6603582a
open Go.ChangeShapes Go.WideShapes Go.ChangeAt Go.RowKit Go.Deep
set_option linter.unusedVariables false

def histC (B n : Nat) (d : Int) : Array Value := #[.slice (some ⟨B, 0, none⟩) n n, .slice none 0 0, .map none, .map none, .map none, .int .u64 d]
def orderC (B H n : Nat) : Array Value := #[.pointer (some ⟨H, 0, none⟩), .slice (some ⟨B + 1, 0, none⟩) n n, .slice (some ⟨H + 1, 0, none⟩) 1 1, .slice (some ⟨B + 1 + 1, 0, none⟩) (n + 1) (n + 1), .slice (some ⟨B + 1 + 1 + 1, 0, none⟩) (n + 1) (n + 1), .pointer none, .pointer none, .map none, .slice none 0 0, .slice none 0 0, .slice none 0 0]
def orderW (w : World) (B n : Nat) (d : Int) : World := ((w.alloc (.cells (histC B n d) 49)).alloc (.cells #[.slice (some ⟨B + 1, 0, none⟩) n n] 34)).alloc (.cells (orderC B w.heap.size n) 59)

theorem laid_order {B : Nat} {w : World} {n : Nat} {E : Nat → Int} {pf : Nat → Nat} (h : Built B w n n E pf) (d : Int) : Laid (orderW w B n d) (w.heap.size + 2) w.heap.size B (B + 1) (B + 1 + 1 + 1) pf n E d := by
  obtain ⟨⟨f1, r1, g1⟩, ⟨f2, r2, g2⟩, ⟨f3, r3, g3⟩, en, sz⟩ := h
  have e2 : w.heap.size + 2 = ((w.alloc (.cells (histC B n d) 49)).alloc (.cells #[.slice (some ⟨B + 1, 0, none⟩) n n] 34)).heap.size := by simp
  have hn : (orderW w B n d).heap[w.heap.size + 2]? = some (.cells (orderC B w.heap.size n) 59) := by
    rw [e2]; exact blk_alloc_new _ _
  have hh : (orderW w B n d).heap[w.heap.size]? = some (.cells (histC B n d) 49) := by
    unfold orderW
    rw [Below.heap_alloc _ _ _ (by simp; omega), Below.heap_alloc _ _ _ (by simp)]
    exact blk_alloc_new _ _
  refine ⟨?_, ?_, ?_, ?_, ?_, fun i hi => ?_, fun i hi => ?_, fun i hi => ?_, fun i hi => ?_⟩
  · simp only [World.cell?, hn]; rfl
  · simp only [World.cell?, hn]; rfl
  · simp only [World.cell?, hn]; rfl
  · simp only [World.cell?, hh]; rfl
  · simp only [World.cell?, hh]; rfl
  · rw [← g2 i hi]; exact al3 (r2.cell hi) _ _ _
  · rw [← g3 i hi]; exact al3 (r3.cell (by omega)) _ _ _
  · rw [← g1 i hi]; exact al3 (r1.cell (by omega)) _ _ _
  · exact al3 (en i hi).2 _ _ _
theorem ownsRow_low {w : World} {base base' : Nat} {e : TypeId} {size : Nat} {v : Value} {n : Nat} {xs : List Value} (h : w.ownsRow base e size v n xs) (hb : base' ≤ base) : w.ownsRow base' e size v n xs := by
  obtain ⟨h1, h2⟩ := h
  refine ⟨h1, ?_⟩
  rcases h2 with h2 | ⟨g, cap, cur, hv, hg, r⟩
  · exact Or.inl h2
  · exact Or.inr ⟨g, cap, cur, hv, by omega, r⟩

theorem arb_laid {B : Nat} {w : World} {n : Nat} {E : Nat → Int} {pf : Nat → Nat} (h : Built B w n n E pf) (d : Int) (τ : Nat) (hn : n ≤ 4096) (hτ : τ < n) (hd : 0 ≤ d) (hI : ∀ i, i < n → I64 (E i)) (hA : Asc n E) :
    Calls Try.prog 12 #[.pointer (some ⟨w.heap.size + 1 + 1, 0, none⟩), .int .i64 ((τ : Int) + 1), .func (.func 13) #[] #[.pointer (some ⟨w.heap.size + 1 + 1 + 1, 0, none⟩)]] ((orderW w B n d).alloc (.cells #[.slice none 0 0] 27)) fun e w' => e = .returned (.tuple #[]) ∧ ∃ pv, w'.cell? ⟨w.heap.size + 1 + 1 + 1, 0, none⟩ = some pv ∧ w'.ownsRow (w.heap.size + 4) 30 2 pv (before E d (τ + 1) - first E d (τ + 1)) (pairsV (first E d (τ + 1)) (before E d (τ + 1) - first E d (τ + 1)) (τ + 1)) ∧ Below w.heap.size w w' := by
  have hs : (orderW w B n d).heap.size = w.heap.size + 3 := by simp [orderW]
  have hL := laid_order h d
  have hb0 : Below w.heap.size w (orderW w B n d) := (((Below.refl _ _).alloc (Nat.le_refl _) _).alloc (by simp) _).alloc (by simp; omega) _
  have hb1 : Below (w.heap.size + 3) (orderW w B n d) ((orderW w B n d).alloc (.cells #[.slice none 0 0] 27)) := (Below.refl _ _).alloc (by omega) _
  have hv : ((orderW w B n d).alloc (.cells #[.slice none 0 0] 27)).heap[w.heap.size + 3]? = some (.cells #[.slice none 0 0] 27 (0, 0)) := by rw [← hs]; exact blk_alloc_new _ _
  refine (arbitrate_any (w.heap.size + 2) w.heap.size B (B + 1) (B + 1 + 1 + 1) pf n E d τ (w.heap.size + 3) _ (by omega) hτ hd hI hA (fun wr hb => hL.below (by rw [hs]; exact hb1.trans hb)) hv).mono ?_
  rintro e w' ⟨rfl, pv, hpv, ho, hb⟩
  exact ⟨rfl, pv, cell_of_one hpv, ho, (hb0.trans (hb1.mono (by omega))).trans (hb.mono (by omega))⟩

set_option maxHeartbeats 1000000 in
theorem zz_arbitrate (a : Option Addr) (n c : Nat) (E : Nat → Int) (d : Int) (τ : Nat) (w : World) (hn : n ≤ 4096) (hτ : τ < n) (hd : 0 ≤ d) (hI : ∀ i, i < n → I64 (E i)) (hA : Asc n E) (hE : Els w a n (fun i => .int .i64 (E i))) :
    Calls Try.prog 8 #[.slice a n c, .int .u64 d, .int .i64 ((τ : Int) + 1)] w fun e w' => ∃ pv, e = .returned pv ∧ Below w.heap.size w w' ∧ w'.ownsRow w.heap.size 30 2 pv (before E d (τ + 1) - first E d (τ + 1)) (pairsV (first E d (τ + 1)) (before E d (τ + 1) - first E d (τ + 1)) (τ + 1)) := by
  have mk1 := run_make_txn n (by omega)
  have mk2 := run_make_row' (P := Try.prog) 34 3 (.int .i64 0) 8 Try.underlying34 Try.info3 rfl .i64 .i64 n (by omega) (by omega)
  have mk3 := run_make_row' (P := Try.prog) 34 3 (.int .i64 0) 8 Try.underlying34 Try.info3 rfl .i64 .i64 (n + 1) (by omega) (by omega)
  have e1 : ((n + 1 : Nat) : Int) = (n : Int) + 1 := by omega
  rw [e1] at mk3
  clear e1
  have HI := hide' hI
  clear hI
  go_enter Try.func8, Try.ntmps8
  go_wp2
  clear mk1 mk2 mk3
  go_loopw [12] (fun i wr => ∃ k : Nat, k ≤ n ∧ i = .int .i64 k ∧ Below w.heap.size w wr ∧ Hid (∃ pf, Built w.heap.size wr n k E pf)) (fun i _ => n - (intOf i).toNat)
  case atStart =>
    refine ⟨0, Nat.zero_le _, rfl, ?_, fun _ => 0, ?_, ?_, ?_, fun i hi => by omega, by simp⟩
    · exact ((((Below.refl _ _).alloc (Nat.le_refl _) _).alloc (by simp) _).alloc (by simp; omega) _).alloc (by simp; omega) _
    · obtain ⟨f, hf⟩ := txn_made w n
      exact ⟨f, ((hf.alloc _).alloc _).alloc _, fun i hi => by omega⟩
    · have q := World.rowIs_made (w.alloc (.cells (madeCells txnC (n * 7)) 42)) (.int .i64 0) n 3
      exact ⟨_, by simpa using ((q.alloc _).alloc _), fun i hi => by omega⟩
    · have q := World.rowIs_made (((w.alloc (.cells (madeCells txnC (n * 7)) 42)).alloc (.cells (madeCells #[.int .i64 0] n) 3)).alloc (.cells (madeCells #[.int .i64 0] (n + 1)) 3)) (.int .i64 0) (n + 1) 3
      exact ⟨_, by simpa using q, fun i hi => by omega⟩
  case round =>
    obtain ⟨k, hk, rfl, hb, HB⟩ := hrel
    obtain ⟨pf, hB⟩ := HB.out
    by_cases hlt : k < n
    · obtain ⟨x, hx, c0⟩ := hE k hlt
      subst hx
      have c0' := later hb c0
      have HN := hide' (built_step hB hlt)
      have hsz := hB.sz
      obtain ⟨⟨f1, r1, g1⟩, ⟨f2, r2, g2⟩, ⟨f3, r3, g3⟩, en, _⟩ := hB
      have q0 := al3 (r1.cell (i := k * 7) (by omega))
      have q1 := al3 (r1.cell (i := k * 7 + 1) (by omega))
      have q2 := al3 (r1.cell (i := k * 7 + 2) (by omega))
      have q3 := al3 (r1.cell (i := k * 7 + 3) (by omega))
      have q4 := al3 (r1.cell (i := k * 7 + 4) (by omega))
      have q5 := al3 (r1.cell (i := k * 7 + 5) (by omega))
      have q6 := al3 (r1.cell (i := k * 7 + 6) (by omega))
      have z1 := fun i => fz3 (by exact r1.lt) (r1.frozen i)
      have p2 := al3 (r2.cell (i := k) (by omega))
      have z2 := fun i => fz3 (by exact r2.lt) (r2.frozen i)
      have p3 := al3 (r3.cell (i := k + 1) (by omega))
      have z3 := fun i => fz3 (by exact r3.lt) (r3.frozen i)
      clear c0 r1 r2 r3 g1 g2 g3 en HB hA hE
      go_wp2
      go_roundw
      case rel => exact ⟨k + 1, by omega, by go_num, txnW_below hb hsz, _, HN⟩
      case measure => simp [intOf]; omega
    · obtain rfl : k = n := by omega
      have q := arb_laid hB d τ hn hτ hd HI.out hA
      unfold orderW histC orderC at q
      have HQ := hide' q
      clear q hE hA
      go_wp2_with fail
      refine HQ.out.mono ?_
      rintro e w2 ⟨rfl, pv, hpv, ho, hb2⟩
      go_wp2
      go_ret
      exact ⟨pv, rfl, belowThen hb hb2, ownsRow_low ho (by have := hb.size; omega)⟩
end Go.Proofs.Qxb6603582a
