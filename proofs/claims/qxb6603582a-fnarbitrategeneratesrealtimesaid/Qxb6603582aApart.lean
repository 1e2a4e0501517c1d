import Derived.Test.Qxb6603582aBase
import Derived.Test.Qxb6603582aPlain
namespace Go.Proofs.Qxb6603582a
open Go.ChangeShapes Go.WideShapes Go.ChangeAt Go.RowKit Go.Deep
set_option linter.unusedVariables false

/-- An int64. -/
def I64 (x : Int) : Prop := -9223372036854775808 ≤ x ∧ x ≤ 9223372036854775807
theorem ret_int {k : IntKind} {a b : Int} (h : a = b) : Ending.returned (.int k a) = .returned (.int k b) := by rw [h]
theorem ret_bool {a b : Bool} (h : a = b) : Ending.returned (.bool a) = .returned (.bool b) := by rw [h]
theorem wrap_diff (a b : Int) (ha : I64 a) (hb : I64 b) (h : a < b) : IntKind.u64.wrap (IntKind.u64.wrap b - IntKind.u64.wrap a) = b - a := by
  unfold I64 at ha hb
  simp only [IntKind.wrap_u64]
  omega
theorem dec_eq {p q : Prop} [Decidable p] [Decidable q] (h : p ↔ q) : decide p = decide q := by simp [h]

theorem after_any (a b : Int) (w : World) (ha : I64 a) (hb : I64 b) :
    Calls Try.prog 19 #[.int .i64 a, .int .i64 b] w fun e w' => e = .returned (.int .u64 (if b ≤ a then 0 else b - a)) ∧ w' = w := by
  by_cases h : b ≤ a
  · rw [if_pos h]
    go_enter Try.func19, Try.ntmps19
    go_wp2
    go_ret
    exact ⟨rfl, rfl⟩
  · rw [if_neg h]
    go_enter Try.func19, Try.ntmps19
    go_wp2
    go_ret
    exact ⟨ret_int (wrap_diff a b ha hb (by omega)), rfl⟩
theorem apart_any (a b d : Int) (w : World) (ha : I64 a) (hb : I64 b) (hd : 0 ≤ d) :
    Calls Try.prog 18 #[.int .i64 a, .int .i64 b, .int .u64 d] w fun e w' => e = .returned (.bool (apartB a b d)) ∧ w' = w := by
  go_enter Try.func18, Try.ntmps18
  go_wp2_with fail
  refine (after_any a b w ha hb).mono ?_
  rintro e w' ⟨rfl, rfl⟩
  by_cases h : b ≤ a
  · rw [if_pos h]
    go_wp2
    go_ret
    exact ⟨ret_bool (dec_eq (by omega)), rfl⟩
  · rw [if_neg h]
    go_wp2
    go_ret
    exact ⟨ret_bool (dec_eq (by omega)), rfl⟩
theorem law_apart (a b d : Int) (w : World) (ha : I64 a) (hb : I64 b) (hd : 0 ≤ d) :
    Calls Try.prog 9 #[.int .i64 a, .int .i64 b, .int .u64 d] w fun e w' => e = .returned (.bool (apartB a b d)) ∧ w = w' := by
  unfold I64 at ha hb
  by_cases h : b ≤ a
  · go_enter Try.func9, Try.ntmps9
    go_wp2
    go_ret
    exact ⟨by rw [apartB_no.2 (by omega)]; rfl, rfl⟩
  · by_cases h1 : a < 0
    · by_cases h2 : 0 ≤ b
      · go_enter Try.func9, Try.ntmps9
        go_wp2
        go_ret
        exact ⟨ret_bool (dec_eq (by omega)), rfl⟩
      · go_enter Try.func9, Try.ntmps9
        go_wp2
        go_ret
        exact ⟨rfl, rfl⟩
    · go_enter Try.func9, Try.ntmps9
      go_wp2
      go_ret
      exact ⟨rfl, rfl⟩

/-- The order of ends in memory: o at bo, its history at bh, the transactions at bt, the nodes at bn, the places at ba, the end of transaction i in the box pf i. -/
structure Laid (w : World) (bo bh bt bn ba : Nat) (pf : Nat → Nat) (n : Nat) (E : Nat → Int) (d : Int) : Prop where
  o0 : w.cell? ⟨bo, 0, none⟩ = some (.pointer (some ⟨bh, 0, none⟩))
  o1 : w.cell? ⟨bo, 1, none⟩ = some (.slice (some ⟨bn, 0, none⟩) n n)
  o4 : w.cell? ⟨bo, 4, none⟩ = some (.slice (some ⟨ba, 0, none⟩) (n + 1) (n + 1))
  h0 : w.cell? ⟨bh, 0, none⟩ = some (.slice (some ⟨bt, 0, none⟩) n n)
  h5 : w.cell? ⟨bh, 5, none⟩ = some (.int .u64 d)
  nd : ∀ i, i < n → w.cell? ⟨bn, i, none⟩ = some (.int .i64 ((i : Int) + 1))
  pl : ∀ i, i < n → w.cell? ⟨ba, i + 1, none⟩ = some (.int .i64 i)
  tx : ∀ i, i < n → w.cell? ⟨bt, i * 7 + 5, none⟩ = some (.pointer (some ⟨pf i, 0, none⟩))
  en : ∀ i, i < n → w.cell? ⟨pf i, 0, none⟩ = some (.int .i64 (E i))
theorem Laid.below {w w' : World} {bo bh bt bn ba : Nat} {pf : Nat → Nat} {n : Nat} {E : Nat → Int} {d : Int} (h : Laid w bo bh bt bn ba pf n E d) (hb : Below w.heap.size w w') : Laid w' bo bh bt bn ba pf n E d :=
  ⟨later hb h.o0, later hb h.o1, later hb h.o4, later hb h.h0, later hb h.h5, fun i hi => later hb (h.nd i hi), fun i hi => later hb (h.pl i hi), fun i hi => later hb (h.tx i hi), fun i hi => later hb (h.en i hi)⟩
theorem drewBelow (w : World) (m : Nat) : Below w.heap.size w (w.drewN m) := below_drewN (Below.refl _ _) m

set_option maxHeartbeats 400000 in
theorem end_any (bo bh bt bn ba : Nat) (pf : Nat → Nat) (n : Nat) (E : Nat → Int) (d : Int) (i : Nat) (w : World) (hn : n ≤ 1048576) (hi : i < n) (hL : Laid w bo bh bt bn ba pf n E d) :
    Calls Try.prog 15 #[.pointer (some ⟨bo, 0, none⟩), .int .i64 i] w fun e w' => e = .returned (.int .i64 (E i)) ∧ ∃ m, w' = w.drewN m := by
  have o0 := hL.o0
  have o1 := hL.o1
  have h0 := hL.h0
  have nd := hL.nd i hi
  have tx := hL.tx i hi
  have en := hL.en i hi
  have l1 : (i : Int) < (n : Int) := by omega
  clear hL
  go_enter Try.func15, Try.ntmps15
  go_wp2
  go_quiet (fail)
  go_wp2
  go_ret
  exact ⟨rfl, _, rfl⟩
end Go.Proofs.Qxb6603582a
