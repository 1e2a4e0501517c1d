import Derived.Test.Qxb6603582aZZ
namespace Go.Proofs.Qxb6603582a
open Go.ChangeShapes Go.WideShapes Go.ChangeAt Go.RowKit Go.Deep
set_option linter.unusedVariables false

theorem law_apart_q (a b d : Int) (w : World) (ha : I64 a) (hb : I64 b) (hd : 0 ≤ d) :
    Calls Try.prog 9 #[.int .i64 a, .int .i64 b, .int .u64 d] w fun e w' => e = .returned (.bool (apartB a b d)) ∧ w' = w :=
  (law_apart a b d w ha hb hd).mono fun e w' ⟨h1, h2⟩ => ⟨h1, h2.symm⟩

set_option maxHeartbeats 400000 in
theorem ends_asc (a : Option Addr) (n cap : Nat) (C : Nat → Int) (w : World) (hn : n ≤ 1048576) (hE : Els w a n (fun i => .int .i64 (C i))) :
    Calls Try.prog 6 #[.slice a n cap] w fun e w' => Says (Asc n C) e ∧ Below w.heap.size w w' := by
  go_enter Try.func6, Try.ntmps6
  go_wp2
  go_loopw [3] (fun i wr => ∃ k : Nat, 1 ≤ k ∧ k ≤ n + 1 ∧ i = .int .i64 k ∧ Below w.heap.size w wr ∧ Hid (∀ i, 0 < i → i < k → i < n → C (i - 1) ≤ C i)) (fun i _ => n - (intOf i).toNat)
  case atStart => exact ⟨1, by omega, by omega, rfl, Below.refl _ _, fun i h1 h2 => by omega⟩
  case round =>
    obtain ⟨k, hk1, hk2, rfl, hb, HA⟩ := hrel
    by_cases hlt : k < n
    · obtain ⟨x, hx, c1⟩ := hE (k - 1) (by omega)
      obtain ⟨x', hx', c2⟩ := hE k hlt
      subst hx
      cases hx'
      have c1' := later hb c1
      have c2' := later hb c2
      clear c1 c2 hE
      have hl1 : (k : Int) < (n : Int) := by omega
      have hl0 : (0 : Int) ≤ (k : Int) - 1 := by omega
      have hl2 : (k : Int) - 1 < (n : Int) := by omega
      by_cases he : C k < C (k - 1)
      · go_wp2
        go_quiet (fail)
        go_wp2
        go_ret
        exact ⟨Says.no, below_drewN hb _⟩
      · go_wp2
        go_quiet (fail)
        go_wp2
        go_roundw
        case rel => exact ⟨k + 1, by omega, by omega, by go_num, below_drewN hb _, fun i h1 h2 h3 => by
          by_cases e : i = k
          · subst e; omega
          · exact HA.out i h1 (by omega) h3⟩
        case measure => simp [intOf]; omega
    · go_wp2
      go_ret
      exact ⟨Says.yes (asc_of_step n C fun i h1 h2 => HA.out i h1 (by omega) h2), hb⟩

theorem zz5 (a : Option Addr) (n c : Nat) (d t : Int) (w : World) (m : n ≤ maxLen) :
    Calls Try.prog 5 #[.slice a n c, .int .u64 d, .int .i64 t] w fun e w' => Says (n ≤ 1048576) e ∧ w = w' := by
  unfold maxLen at m
  go_enter Try.func5, Try.ntmps5
  go_wp2
  all_goals go_ret
  all_goals first | exact ⟨Says.no, rfl⟩ | exact ⟨Says.yes (by omega), rfl⟩
theorem zz10 (a : Option Addr) (n c : Nat) (d : Int) (w : World) (m : n ≤ maxLen) :
    Calls Try.prog 10 #[.slice a n c, .int .u64 d] w fun e w' => Says (n ≤ 1048576) e ∧ w = w' := by
  unfold maxLen at m
  go_enter Try.func10, Try.ntmps10
  go_wp2
  all_goals go_ret
  all_goals first | exact ⟨Says.no, rfl⟩ | exact ⟨Says.yes (by omega), rfl⟩
end Go.Proofs.Qxb6603582a
