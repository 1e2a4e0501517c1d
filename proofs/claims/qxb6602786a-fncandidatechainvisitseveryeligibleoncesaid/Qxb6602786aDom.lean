import Derived.Test.Qxb6602786aAtt
import Derived.Test.Qxb6602786aCandPlain
namespace Go.Proofs.Qxb6602786a
open Go.ChangeShapes Go.WideShapes Go.ChangeAt Go.RowKit Go.Deep
set_option linter.unusedVariables false

/-- The call answers a bool; where it is true, X holds. -/
def Says (X : Prop) (e : Ending) : Prop := ∃ r : Bool, e = .returned (.bool r) ∧ (r = true → X)
theorem Says.no {X : Prop} : Says X (.returned (.bool false)) := ⟨false, rfl, fun h => by cases h⟩
theorem Says.yes {X : Prop} (h : X) : Says X (.returned (.bool true)) := ⟨true, rfl, fun _ => h⟩
/-- What the search's documented state asks. -/
def DomOk (n l1 l2 q l4 l5 : Nat) (next : Int) (D E : Nat → Int) (P : Nat → Bool) : Prop :=
  l1 = n ∧ n ≤ l2 ∧ l4 = q ∧ q ≤ l5 ∧ 0 ≤ next ∧ next ≤ n ∧ Asc n D ∧ Asc q E ∧ ∀ c : Nat, (c : Int) < next → P c = true

set_option maxHeartbeats 400000 in
theorem nondec (a : Option Addr) (n cap : Nat) (C : Nat → Int) (w : World) (hn : n ≤ 1048576) (hE : Els w a n (fun i => .int .i64 (C i))) :
    Calls Try.prog 23 #[.slice a n cap] w fun e w' => ∃ r : Bool, e = .returned (.bool r) ∧ Below w.heap.size w w' ∧ (r = true → Asc n C) := by
  go_enter Try.func23, Try.ntmps23
  go_wp2
  go_loopw [3] (fun i wr => ∃ k : Nat, 1 ≤ k ∧ k ≤ n + 1 ∧ i = .int .i64 k ∧ Below w.heap.size w wr ∧ Hid (∀ i, 0 < i → i < k → i < n → C (i - 1) ≤ C i)) (fun i _ => n - (intOf i).toNat)
  case atStart => exact ⟨1, by omega, by omega, rfl, Below.refl _ _, fun i h1 h2 => by omega⟩
  case round =>
    obtain ⟨k, hk1, hk2, rfl, hb, HA⟩ := hrel
    by_cases hlt : k < n
    · obtain ⟨x, hx, c1⟩ := hE (k - 1) (by omega)
      obtain ⟨x', hx', c2⟩ := hE k hlt
      subst hx
      cases hx'
      have c1' := later hb c1
      have c2' := later hb c2
      clear c1 c2 hE
      have hl1 : (k : Int) < (n : Int) := by omega
      have hl0 : (0 : Int) ≤ (k : Int) - 1 := by omega
      have hl2 : (k : Int) - 1 < (n : Int) := by omega
      by_cases he : C k < C (k - 1)
      · go_wp2
        go_quiet (fail)
        go_wp2
        go_ret
        exact ⟨false, rfl, below_drewN hb _, fun h => by cases h⟩
      · go_wp2
        go_quiet (fail)
        go_wp2
        go_roundw
        case rel => exact ⟨k + 1, by omega, by omega, by go_num, below_drewN hb _, fun i h1 h2 h3 => by
          by_cases e : i = k
          · subst e; omega
          · exact HA.out i h1 (by omega) h3⟩
        case measure => simp [intOf]; omega
    · go_wp2
      go_ret
      exact ⟨true, rfl, hb, fun _ => asc_of_step n C fun i h1 h2 => HA.out i h1 (by omega) h2⟩

set_option maxHeartbeats 1000000 in
theorem cand_domain (a0 a1 a2 a3 a4 a5 : Option Addr) (n c0 l1 c1 l2 c2 q c3 l4 c4 l5 c5 : Nat) (D E : Nat → Int) (P : Nat → Bool) (next : Int) (w : World)
    (b0 : n ≤ 1048576) (b1 : l1 ≤ 1048576) (b2 : l2 ≤ 1048576) (b3 : q ≤ 1048576) (b4 : l4 ≤ 1048576) (b5 : l5 ≤ 1048576)
    (hD : Els w a0 n (fun i => .int .i64 (D i))) (hP : Els w a2 l2 (fun i => .bool (P i))) (hE : Els w a3 q (fun i => .int .i64 (E i))) :
    Calls Try.prog 9 #[.slice a0 n c0, .slice a1 l1 c1, .slice a2 l2 c2, .slice a3 q c3, .slice a4 l4 c4, .slice a5 l5 c5, .int .i64 next] w fun e w' => Says (DomOk n l1 l2 q l4 l5 next D E P) e ∧ Below w.heap.size w w' := by
  by_cases h1 : l1 = n
  rotate_left
  · have h1' : ((l1 : Int) == (n : Int)) = false := by simp; omega
    go_enter Try.func9, Try.ntmps9
    go_wp2
    go_ret
    exact ⟨Says.no, Below.refl _ _⟩
  subst h1
  by_cases h2 : l2 < l1
  · go_enter Try.func9, Try.ntmps9
    go_wp2
    go_ret
    exact ⟨Says.no, Below.refl _ _⟩
  by_cases h4 : l4 = q
  rotate_left
  · have h4' : ((l4 : Int) == (q : Int)) = false := by simp; omega
    go_enter Try.func9, Try.ntmps9
    go_wp2
    go_ret
    exact ⟨Says.no, Below.refl _ _⟩
  subst h4
  by_cases h5 : l5 < l4
  · go_enter Try.func9, Try.ntmps9
    go_wp2
    go_ret
    exact ⟨Says.no, Below.refl _ _⟩
  by_cases h6 : next < 0
  · go_enter Try.func9, Try.ntmps9
    go_wp2
    go_ret
    exact ⟨Says.no, Below.refl _ _⟩
  by_cases h7 : (l1 : Int) < next
  · go_enter Try.func9, Try.ntmps9
    go_wp2
    go_ret
    exact ⟨Says.no, Below.refl _ _⟩
  go_enter Try.func9, Try.ntmps9
  go_wp2_with fail
  refine (nondec a0 l1 c0 D w b0 hD).mono ?_
  rintro e w1 ⟨r1, rfl, bl1, hr1⟩
  cases r1 with
  | false => go_wp2; go_ret; exact ⟨Says.no, bl1⟩
  | true =>
  have A1 := hr1 rfl
  clear hr1
  have hE1 := hE.below bl1
  go_wp2_with fail
  refine (nondec a3 l4 c3 E w1 b3 hE1).mono ?_
  rintro e w2 ⟨r2, rfl, bl2, hr2⟩
  have BB : Below w.heap.size w w2 := belowThen bl1 bl2
  have hP2 := hP.below BB
  cases r2 with
  | false => go_wp2; go_ret; exact ⟨Says.no, BB⟩
  | true =>
  have A2 := hr2 rfl
  clear hr2 bl1 bl2 hE hE1 hD hP
  go_wp2
  go_loop [16] (fun i => ∃ k : Nat, (k : Int) ≤ next ∧ i = .int .i64 k ∧ Hid (∀ c, c < k → P c = true)) (fun i => l1 - (intOf i).toNat)
  case atStart => exact ⟨0, by omega, rfl, fun c hc => by omega⟩
  case round =>
    obtain ⟨k, hk, rfl, HP⟩ := hrel
    by_cases hlt : (k : Int) < next
    · obtain ⟨x, hx, c1⟩ := hP2 k (by omega)
      subst hx
      cases hPk : P k
      · have c1' : w2.cell? (x.add k) = some (.bool false) := by simpa [hPk] using c1
        clear c1 hPk
        go_wp2
        go_ret
        exact ⟨Says.no, BB⟩
      · have c1' : w2.cell? (x.add k) = some (.bool true) := by simpa [hPk] using c1
        have HPK : Hid (P k = true) := hPk
        clear c1 hPk
        go_wp2
        go_round
        case rel => exact ⟨k + 1, by omega, by go_num, fun c hc => by
          by_cases e : c = k
          · subst e; exact HPK.out
          · exact HP.out c (by omega)⟩
        case measure => simp [intOf]; omega
    · go_wp2
      go_ret
      exact ⟨Says.yes ⟨rfl, by omega, rfl, by omega, by omega, by omega, A1, A2, fun c hc => HP.out c (by omega)⟩, BB⟩
end Go.Proofs.Qxb6602786a
