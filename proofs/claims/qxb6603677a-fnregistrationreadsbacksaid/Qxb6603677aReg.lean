import Derived.Test.Qxb6603677aBase
namespace Go.Proofs.Qxb6603677a
open Go.ChangeShapes Go.WideShapes Go.ChangeAt Go.RowKit Go.Deep
set_option linter.unusedVariables false

/-- A branch request by its cells. -/
def reqC (t0 t1 t2 t3 : ByteArray) (a : Option Addr) (n c : Nat) : Array Value := #[.string t0, .string t1, .string t2, .string t3, .slice a n c]

set_option maxHeartbeats 1000000 in
theorem reg_nil (s0 s1 s2 : ByteArray) (n3 n4 n5 : Int) (s6 s7 s8 : ByteArray) (n9 n10 : Int) (w : World) :
    Calls Try.prog 8 #[.agg #[.string s0, .string s1, .string s2, .int .i64 n3, .int .i64 n4, .int .i64 n5, .string s6, .string s7, .string s8, .int .i64 n9, .int .i64 n10], .pointer none] w fun e w' => e = .returned (.agg #[.string ByteArray.empty, .string ByteArray.empty, .string ByteArray.empty, .string ByteArray.empty, .slice none 0 0]) ∧ Below w.heap.size w w' := by
  go_enter Try.func8, Try.ntmps8
  go_wp2
  go_returns
  exact ⟨rfl, by go_grown⟩

theorem al7 {w : World} {a : Addr} {v : Value} (h : w.cell? a = some v) (o1 o2 o3 o4 o5 o6 o7 : Obj) : (((((((w.alloc o1).alloc o2).alloc o3).alloc o4).alloc o5).alloc o6).alloc o7).cell? a = some v := by
  have hlt := World.block_lt_of_cell? _ _ h
  rw [World.cell?_alloc_lt _ _ _ (by simp; omega), World.cell?_alloc_lt _ _ _ (by simp; omega), World.cell?_alloc_lt _ _ _ (by simp; omega), World.cell?_alloc_lt _ _ _ (by simp; omega), World.cell?_alloc_lt _ _ _ (by simp; omega), World.cell?_alloc_lt _ _ _ (by simp; omega), World.cell?_alloc_lt _ _ _ hlt]
  exact h

set_option maxHeartbeats 1000000 in
theorem reg_some (s0 s1 s2 : ByteArray) (n3 n4 n5 : Int) (s6 s7 s8 : ByteArray) (n9 n10 : Int) (bb : Nat) (t0 t1 t2 t3 : ByteArray) (a : Option Addr) (n c : Nat) (w : World)
    (c0 : w.cell? ⟨bb, 0, none⟩ = some (.string t0)) (c1 : w.cell? ⟨bb, 1, none⟩ = some (.string t1)) (c2 : w.cell? ⟨bb, 2, none⟩ = some (.string t2)) (c3 : w.cell? ⟨bb, 3, none⟩ = some (.string t3)) (c4 : w.cell? ⟨bb, 4, none⟩ = some (.slice a n c)) :
    Calls Try.prog 8 #[.agg #[.string s0, .string s1, .string s2, .int .i64 n3, .int .i64 n4, .int .i64 n5, .string s6, .string s7, .string s8, .int .i64 n9, .int .i64 n10], .pointer (some ⟨bb, 0, none⟩)] w fun e w' => e = .returned (.agg #[.string t0, .string t1, .string t2, .string t3, .slice a n c]) ∧ Below w.heap.size w w' := by
  have d0 := al7 c0
  have d1 := al7 c1
  have d2 := al7 c2
  have d3 := al7 c3
  have d4 := al7 c4
  clear c0 c1 c2 c3 c4
  go_enter Try.func8, Try.ntmps8
  go_wp2
  go_returns
  exact ⟨rfl, by go_grown⟩

set_option maxHeartbeats 400000 in
theorem same_some (x y : Addr) (n c c' : Nat) (S : Nat → ByteArray) (w : World) (hn : n ≤ 1048576) (hA : ∀ i, i < n → w.cell? (x.add i) = some (.string (S i))) (hB : ∀ i, i < n → w.cell? (y.add i) = some (.string (S i))) :
    Calls Try.prog 9 #[.slice (some x) n c, .slice (some y) n c'] w fun e w' => e = .returned (.bool true) ∧ Below w.heap.size w w' := by
  have q1 := fun w => Lib.run_eql_slice_nil (P := Try.prog) w 24 9 (some x) n c 0 0 Try.underlying24
  have q2 := fun w => Lib.run_eql_slice_nil (P := Try.prog) w 24 9 (some y) n c' 0 0 Try.underlying24
  have HA := hide' hA
  have HB := hide' hB
  clear hA hB
  go_enter Try.func9, Try.ntmps9
  go_wp2
  go_loopw [5] (fun i wr => ∃ k : Nat, k ≤ n ∧ i = .int .i64 k ∧ Below w.heap.size w wr) (fun i _ => n - (intOf i).toNat)
  case atStart => exact ⟨0, Nat.zero_le _, rfl, Below.refl _ _⟩
  case round =>
    obtain ⟨k, hk, rfl, hb⟩ := hrel
    by_cases hlt : k < n
    · have c1 := later hb (HA.out k hlt)
      have c2 := later hb (HB.out k hlt)
      have hl : (k : Int) < (n : Int) := by omega
      go_wp2
      go_quiet (fail)
      go_wp2
      go_roundw
      case rel => exact ⟨k + 1, by omega, by go_num, below_drewN hb _⟩
      case measure => simp [intOf]; omega
    · go_wp2
      go_ret
      exact ⟨rfl, hb⟩
theorem same_any (a a' : Option Addr) (n c c' : Nat) (S : Nat → ByteArray) (w : World) (hn : n ≤ 1048576) (hA : Els w a n (fun i => .string (S i))) (hB : Els w a' n (fun i => .string (S i))) (hnil : a = none ↔ a' = none) :
    Calls Try.prog 9 #[.slice a n c, .slice a' n c'] w fun e w' => e = .returned (.bool true) ∧ Below w.heap.size w w' := by
  cases a with
  | none =>
    obtain rfl := hnil.1 rfl
    obtain rfl := hA.nil
    have q1 := fun w => Lib.run_eql_slice_nil (P := Try.prog) w 24 9 none 0 c 0 0 Try.underlying24
    have q2 := fun w => Lib.run_eql_slice_nil (P := Try.prog) w 24 9 none 0 c' 0 0 Try.underlying24
    go_enter Try.func9, Try.ntmps9
    go_wp2
    go_rounds 1
    go_ret
    exact ⟨rfl, Below.refl _ _⟩
  | some x =>
    cases a' with
    | none => exact absurd (hnil.2 rfl) (by simp)
    | some y => exact same_some x y n c c' S w hn (fun i hi => hA.at hi) (fun i hi => hB.at hi)
end Go.Proofs.Qxb6603677a
