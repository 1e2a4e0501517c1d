import Derived.Test.Qxb6602786aZZ
namespace Go.Proofs.Qxb6602786a
open Go.ChangeShapes Go.WideShapes Go.ChangeAt Go.RowKit Go.Deep

theorem zz16 (ak af ac : Option Addr) (lk ck lf cf lc cc : Nat) (en : Int) (w : World) (mk : lk ≤ maxLen) (mf : lf ≤ maxLen) (mc : lc ≤ maxLen) :
    Calls Try.prog 16 #[.slice ak lk ck, .slice af lf cf, .slice ac lc cc, .int .i64 en] w fun e w' => ∃ r : Bool, e = .returned (.bool r) ∧ w = w' ∧ (r = true → lk ≤ 1048576 ∧ lf ≤ 1048576 ∧ lc ≤ 1048576) := by
  unfold maxLen at mk mf mc
  go_enter Try.func16, Try.ntmps16
  go_wp2
  all_goals go_ret
  all_goals first | exact ⟨false, rfl, rfl, fun h => by cases h⟩ | exact ⟨true, rfl, rfl, fun _ => ⟨by omega, by omega, by omega⟩⟩

theorem owns_shape {w : World} {base : Nat} {v : Value} {n : Nat} {xs : List Value} (h : w.ownsRow base 5 1 v n xs) (hn : 0 < n) : ∃ g cap, v = .slice (some ⟨g, 0, none⟩) n cap ∧ base ≤ g ∧ n ≤ cap ∧ ∀ j, j < n → w.cell? ⟨g, j, none⟩ = xs[j]? := by
  obtain ⟨h1, h2⟩ := id h
  rcases h2 with ⟨_, h0⟩ | ⟨g, cap, cur, rfl, hg, hh, hc, _⟩
  · omega
  · exact ⟨g, cap, rfl, hg, hc, fun j hj => h.cellAt j (by omega)⟩

theorem bit_read (b t : Nat) (hb : b < 256) : (bits .and .u8 ((b : Int) / 2 ^ t) 1 == 1) = b.testBit t := by
  have e1 : ((b : Int) / 2 ^ t) = ((b / 2 ^ t : Nat) : Int) := by simp
  have hl : b / 2 ^ t < 256 := Nat.lt_of_le_of_lt (Nat.div_le_self _ _) hb
  have e2 := u8_and_nat (b / 2 ^ t) 1 hl (by omega)
  have e3 : ((1 : Nat) : Int) = 1 := rfl
  rw [e3] at e2
  rw [e1, e2, Nat.testBit_eq_decide_div_mod_eq, Nat.and_one_is_mod]
  by_cases h : b / 2 ^ t % 2 = 1
  · rw [h]; rfl
  · have : b / 2 ^ t % 2 = 0 := by omega
    rw [this]; rfl
theorem bit_in (F : Nat → Bool) (m p : Nat) (h : p < m) : (bits .and .u8 ((byteOf F m (p / 8) : Int) / 2 ^ (p % 8)) 1 == 1) = F p := by
  rw [bit_read _ _ (byteOf_lt _ _ _), byteOf_bit]; simp [mask, h]
theorem bit_out (F : Nat → Bool) (m p : Nat) (h : ¬ p < m) : (bits .and .u8 ((byteOf F m (p / 8) : Int) / 2 ^ (p % 8)) 1 == 1) = false := by
  rw [bit_read _ _ (byteOf_lt _ _ _), byteOf_bit]; simp [mask, h]
end Go.Proofs.Qxb6602786a
