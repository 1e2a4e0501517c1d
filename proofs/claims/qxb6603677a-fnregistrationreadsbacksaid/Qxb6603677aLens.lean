import Derived.Test.Qxb6603677aBase
namespace Go.Proofs.Qxb6603677a
open Go.ChangeShapes Go.WideShapes Go.ChangeAt Go.RowKit Go.Deep
set_option linter.unusedVariables false

/-- A small number: what the lengths are added up to. -/
def Small (r : Int) : Prop := 0 ≤ r ∧ r ≤ 2097152
theorem add_len (t n : Int) (w : World) (ht : Small t) (hn : 0 ≤ n) :
    Calls Try.prog 10 #[.int .i64 t, .int .i64 n] w fun e w' => Gives Small e ∧ w = w' := by
  unfold Small at ht
  by_cases h1 : 1048576 < t
  · go_enter Try.func10, Try.ntmps10
    go_wp2
    go_ret
    exact ⟨Gives.mk (by unfold Small; omega), rfl⟩
  · by_cases h2 : 1048576 < n
    · go_enter Try.func10, Try.ntmps10
      go_wp2
      go_ret
      exact ⟨Gives.mk (by unfold Small; omega), rfl⟩
    · go_enter Try.func10, Try.ntmps10
      go_wp2
      go_ret
      exact ⟨Gives.mk (by unfold Small; omega), rfl⟩

/-- The envelope as a value. -/
def envV (s0 s1 s2 : ByteArray) (n3 n4 n5 : Int) (s6 s7 s8 : ByteArray) (n9 n10 : Int) : Value := .agg #[.string s0, .string s1, .string s2, .int .i64 n3, .int .i64 n4, .int .i64 n5, .string s6, .string s7, .string s8, .int .i64 n9, .int .i64 n10]

set_option maxHeartbeats 1000000 in
theorem env_bytes (s0 s1 s2 : ByteArray) (n3 n4 n5 : Int) (s6 s7 s8 : ByteArray) (n9 n10 : Int) (w : World) (m0 : s0.size ≤ maxLen) (m1 : s1.size ≤ maxLen) (m2 : s2.size ≤ maxLen) (m6 : s6.size ≤ maxLen) (m7 : s7.size ≤ maxLen) (m8 : s8.size ≤ maxLen) :
    Calls Try.prog 6 #[.int .i64 0, .agg #[.string s0, .string s1, .string s2, .int .i64 n3, .int .i64 n4, .int .i64 n5, .string s6, .string s7, .string s8, .int .i64 n9, .int .i64 n10]] w fun e w' => Gives Small e ∧ Below w.heap.size w w' := by
  unfold maxLen at *
  go_enter Try.func6, Try.ntmps6
  go_wp2_with fail
  refine (add_len _ _ _ (by unfold Small; omega) (by omega)).mono ?_
  rintro e w0 ⟨⟨r0, rfl, h0⟩, rfl⟩
  go_wp2_with fail
  refine (add_len _ _ _ h0 (by omega)).mono ?_
  rintro e w1 ⟨⟨r1, rfl, h1⟩, rfl⟩
  go_wp2_with fail
  refine (add_len _ _ _ h1 (by omega)).mono ?_
  rintro e w2 ⟨⟨r2, rfl, h2⟩, rfl⟩
  go_wp2_with fail
  refine (add_len _ _ _ h2 (by omega)).mono ?_
  rintro e w3 ⟨⟨r3, rfl, h3⟩, rfl⟩
  go_wp2_with fail
  refine (add_len _ _ _ h3 (by omega)).mono ?_
  rintro e w4 ⟨⟨r4, rfl, h4⟩, rfl⟩
  go_wp2_with fail
  refine (add_len _ _ _ h4 (by omega)).mono ?_
  rintro e w5 ⟨⟨r5, rfl, h5⟩, rfl⟩
  go_wp2
  go_ret
  exact ⟨Gives.mk h5, (Below.refl _ _).alloc (Nat.le_refl _) _⟩

set_option maxHeartbeats 1000000 in
theorem reg_bytes (t : Int) (s0 s1 s2 s3 : ByteArray) (a : Option Addr) (n c : Nat) (S : Nat → ByteArray) (w : World) (ht : Small t) (m0 : s0.size ≤ maxLen) (m1 : s1.size ≤ maxLen) (m2 : s2.size ≤ maxLen) (m3 : s3.size ≤ maxLen)
    (hn : n ≤ 65536) (hE : Els w a n (fun i => .string (S i))) (hS : ∀ i, i < n → (S i).size ≤ maxLen) :
    Calls Try.prog 5 #[.int .i64 t, .string s0, .string s1, .string s2, .string s3, .slice a n c] w fun e w' => Gives Small e ∧ w = w' := by
  have HS := hide' hS
  clear hS
  unfold maxLen at m0 m1 m2 m3
  go_enter Try.func5, Try.ntmps5
  go_wp2_with fail
  refine (add_len _ _ _ ht (by omega)).mono ?_
  rintro e w0 ⟨⟨r0, rfl, h0⟩, rfl⟩
  go_wp2_with fail
  refine (add_len _ _ _ h0 (by omega)).mono ?_
  rintro e w1 ⟨⟨r1, rfl, h1⟩, rfl⟩
  go_wp2_with fail
  refine (add_len _ _ _ h1 (by omega)).mono ?_
  rintro e w2 ⟨⟨r2, rfl, h2⟩, rfl⟩
  go_wp2_with fail
  refine (add_len _ _ _ h2 (by omega)).mono ?_
  rintro e w3 ⟨⟨r3, rfl, h3⟩, rfl⟩
  go_wp2_with fail
  refine (add_len _ _ _ h3 (by omega)).mono ?_
  rintro e w4 ⟨⟨r4, rfl, h4⟩, rfl⟩
  go_wp2
  go_loop [0, 13] (fun v i => ∃ (k : Nat) (r : Int), k ≤ n ∧ i = .int .i64 k ∧ v = .int .i64 r ∧ Hid (Small r)) (fun _ i => n - (intOf i).toNat)
  case atStart => exact ⟨0, r4, Nat.zero_le _, rfl, rfl, h4⟩
  case round =>
    obtain ⟨k, r, hk, rfl, rfl, HR⟩ := hrel
    by_cases hlt : k < n
    · obtain ⟨x, hx, c1⟩ := hE k hlt
      subst hx
      have hs := HS.out k hlt
      unfold maxLen at hs
      go_wp2_with fail
      refine (add_len _ _ _ HR.out (by omega)).mono ?_
      rintro e w9 ⟨⟨r9, rfl, h9⟩, rfl⟩
      go_wp2
      go_round
      case rel => exact ⟨k + 1, r9, by omega, by go_num, rfl, h9⟩
      case measure => simp [intOf]; omega
    · go_wp2
      go_ret
      exact ⟨Gives.mk HR.out, rfl⟩

set_option maxHeartbeats 2000000 in
theorem zz4 (s0 s1 s2 : ByteArray) (n3 n4 n5 : Int) (s6 s7 s8 : ByteArray) (n9 n10 : Int) (hs : Bool) (t0 t1 t2 t3 : ByteArray) (a : Option Addr) (n c : Nat) (S : Nat → ByteArray) (w : World)
    (m0 : s0.size ≤ maxLen) (m1 : s1.size ≤ maxLen) (m2 : s2.size ≤ maxLen) (m6 : s6.size ≤ maxLen) (m7 : s7.size ≤ maxLen) (m8 : s8.size ≤ maxLen) (k0 : t0.size ≤ maxLen) (k1 : t1.size ≤ maxLen) (k2 : t2.size ≤ maxLen) (k3 : t3.size ≤ maxLen)
    (hn : n ≤ maxLen) (hE : Els w a n (fun i => .string (S i))) (hS : ∀ i, i < n → (S i).size ≤ maxLen) :
    Calls Try.prog 4 #[.agg #[.string s0, .string s1, .string s2, .int .i64 n3, .int .i64 n4, .int .i64 n5, .string s6, .string s7, .string s8, .int .i64 n9, .int .i64 n10], .bool hs, .string t0, .string t1, .string t2, .string t3, .slice a n c] w fun e w' => Says True e ∧ Below w.heap.size w w' := by
  have HS := hide' hS
  clear hS
  unfold maxLen at m0 m1 m2 m6 m7 m8 k0 k1 k2 k3 hn
  go_enter Try.func4, Try.ntmps4
  go_wp2
  all_goals first | (go_ret; exact ⟨Says.no, (Below.refl _ _).alloc (Nat.le_refl _) _⟩) | skip
  go_loop [15, 16] (fun v i => ∃ (k : Nat) (z : Int), k ≤ n ∧ 0 ≤ z ∧ z ≤ 1048576 ∧ i = .int .i64 k ∧ v = .int .i64 z) (fun _ i => n - (intOf i).toNat)
  case atStart => exact ⟨0, _, Nat.zero_le _, by omega, by omega, rfl, rfl⟩
  case round =>
    obtain ⟨k, z, hk, hz0, hz1, rfl, rfl⟩ := hrel
    by_cases hlt : k < n
    · obtain ⟨x, hx, c1⟩ := hE k hlt
      subst hx
      have hsz := HS.out k hlt
      unfold maxLen at hsz
      have c2 := later ((Below.refl w.heap.size w).alloc (Nat.le_refl _) (.cells #[.string s0, .string s1, .string s2, .int .i64 n3, .int .i64 n4, .int .i64 n5, .string s6, .string s7, .string s8, .int .i64 n9, .int .i64 n10] 23)) c1
      clear c1
      go_wp2
      all_goals first | (go_ret; exact ⟨Says.no, (Below.refl _ _).alloc (Nat.le_refl _) _⟩) | skip
      go_round
      case rel => exact ⟨k + 1, _, by omega, by omega, by omega, by go_num, rfl⟩
      case measure => simp [intOf]; omega
    · go_wp2
      go_ret
      exact ⟨Says.yes trivial, (Below.refl _ _).alloc (Nat.le_refl _) _⟩
end Go.Proofs.Qxb6603677a
