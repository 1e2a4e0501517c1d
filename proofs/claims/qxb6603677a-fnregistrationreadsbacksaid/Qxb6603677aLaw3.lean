import Derived.Test.Qxb6603677aLens
import Derived.Test.Qxb6603677aReg
namespace Go.Proofs.Qxb6603677a
open Go.ChangeShapes Go.WideShapes Go.ChangeAt Go.RowKit Go.Deep
set_option linter.unusedVariables false

/-- The cells cs lie from the head of block b on. -/
def At (w : World) (b : Nat) (cs : Array Value) : Prop := ∀ j v, cs[j]? = some v → w.cell? ⟨b, j, none⟩ = some v
theorem At.below {w w' : World} {b : Nat} {cs : Array Value} (h : At w b cs) (hb : Below w.heap.size w w') : At w' b cs := fun j v hj => later hb (h j v hj)
theorem At.new (w : World) (cs : Array Value) (t : TypeId) : At (w.alloc (.cells cs t)) w.heap.size cs := fun j v hj => by
  simp only [World.cell?, blk_alloc_new]
  simpa using hj

theorem cloneStr_iff (a : Option Addr) (len cap : Nat) (V : Nat → ByteArray) (w : World) (hlen : len ≤ 1048576) (hE : Els w a len (fun i => .string (V i))) :
    Calls Try.prog 7 #[.slice a len cap] w fun e w' => ∃ a', e = .returned (.slice a' len len) ∧ Below w.heap.size w w' ∧ Els w' a' len (fun i => .string (V i)) ∧ (a' = none ↔ a = none) := by
  cases a with
  | none =>
    obtain rfl := hE.nil
    have hnil := fun w => Lib.run_eql_slice_nil (P := Try.prog) w 24 9 none 0 cap 0 0 Try.underlying24
    go_enter Try.func7, Try.ntmps7
    go_wp2
    go_ret
    exact ⟨none, rfl, Below.refl _ _, fun i hi => by omega, by simp⟩
  | some x =>
    refine (cloneStr_some x len cap V w hlen fun i hi => hE.at hi).mono ?_
    rintro e w' ⟨rfl, hb, hr⟩
    exact ⟨_, rfl, hb, Els.of_row hr, by simp⟩

set_option maxHeartbeats 2000000 in
theorem law3 (s0 s1 s2 : ByteArray) (n3 n4 n5 : Int) (s6 s7 s8 : ByteArray) (n9 n10 : Int) (has : Bool) (t0 t1 t2 t3 : ByteArray) (a : Option Addr) (n c : Nat) (S : Nat → ByteArray) (w : World)
    (m0 : s0.size ≤ maxLen) (m1 : s1.size ≤ maxLen) (m2 : s2.size ≤ maxLen) (m6 : s6.size ≤ maxLen) (m7 : s7.size ≤ maxLen) (m8 : s8.size ≤ maxLen) (k0 : t0.size ≤ maxLen) (k1 : t1.size ≤ maxLen) (k2 : t2.size ≤ maxLen) (k3 : t3.size ≤ maxLen)
    (hn : n ≤ maxLen) (hE : Els w a n (fun i => .string (S i))) (hS : ∀ i, i < n → (S i).size ≤ maxLen) :
    Calls Try.prog 3 #[.agg #[.string s0, .string s1, .string s2, .int .i64 n3, .int .i64 n4, .int .i64 n5, .string s6, .string s7, .string s8, .int .i64 n9, .int .i64 n10], .bool has, .string t0, .string t1, .string t2, .string t3, .slice a n c] w fun e w' => e = .returned (.bool true) ∧ Below w.heap.size w w' := by
  have HS := hide' hS
  have BA := (Below.refl w.heap.size w).alloc (Nat.le_refl _) (.cells #[.string s0, .string s1, .string s2, .int .i64 n3, .int .i64 n4, .int .i64 n5, .string s6, .string s7, .string s8, .int .i64 n9, .int .i64 n10] 23)
  have EA := hE.below BA
  have PA := At.new w #[.string s0, .string s1, .string s2, .int .i64 n3, .int .i64 n4, .int .i64 n5, .string s6, .string s7, .string s8, .int .i64 n9, .int .i64 n10] 23
  have HZ := hide' (zz4 s0 s1 s2 n3 n4 n5 s6 s7 s8 n9 n10 has t0 t1 t2 t3 a n c S _ m0 m1 m2 m6 m7 m8 k0 k1 k2 k3 hn EA hS)
  clear hS hE
  go_enter Try.func3, Try.ntmps3
  go_wp2_with fail
  refine HZ.out.mono ?_
  rintro e w1 ⟨⟨r, rfl, _⟩, B1⟩
  have BB1 := belowThen BA B1
  have E1 := EA.below B1
  have P1 := PA.below B1
  clear HZ EA PA BA B1
  cases r with
  | false => go_wp2; go_ret; exact ⟨rfl, BB1⟩
  | true =>
  by_cases g0 : 65536 < n
  · go_wp2; go_ret; exact ⟨rfl, BB1⟩
  have f0 := P1 0 _ rfl
  have f1 := P1 1 _ rfl
  have f2 := P1 2 _ rfl
  have f3 := P1 3 _ rfl
  have f4 := P1 4 _ rfl
  have f5 := P1 5 _ rfl
  have f6 := P1 6 _ rfl
  have f7 := P1 7 _ rfl
  have f8 := P1 8 _ rfl
  have f9 := P1 9 _ rfl
  have f10 := P1 10 _ rfl
  go_wp2_with fail
  refine (env_bytes s0 s1 s2 n3 n4 n5 s6 s7 s8 n9 n10 w1 m0 m1 m2 m6 m7 m8).mono ?_
  rintro e w2 ⟨⟨z, rfl, hz⟩, B2⟩
  have BB2 := belowThen BB1 B2
  have E2 := E1.below B2
  have P2 := P1.below B2
  clear f0 f1 f2 f3 f4 f5 f6 f7 f8 f9 f10 BB1 E1 P1 B2
  go_wp2_with fail
  refine (reg_bytes z t0 t1 t2 t3 a n c S w2 hz k0 k1 k2 k3 (by omega) E2 HS.out).mono ?_
  rintro e w2' ⟨⟨z2, rfl, hz2⟩, rfl⟩
  by_cases g1 : 1048576 < z2
  · go_wp2; go_ret; exact ⟨rfl, BB2⟩
  go_wp2_with fail
  refine (cloneStr_any a n c S w2 (by omega) E2).mono ?_
  rintro e w3 ⟨y, rfl, B3, c3⟩
  have E3 := c3.els
  have BB3 := belowThen BB2 B3
  have P3 := P2.below B3
  clear c3 E2 P2 B3 BB2
  cases has with
  | false =>
    have f0 := P3 0 _ rfl
    have f1 := P3 1 _ rfl
    have f2 := P3 2 _ rfl
    have f3 := P3 3 _ rfl
    have f4 := P3 4 _ rfl
    have f5 := P3 5 _ rfl
    have f6 := P3 6 _ rfl
    have f7 := P3 7 _ rfl
    have f8 := P3 8 _ rfl
    have f9 := P3 9 _ rfl
    have f10 := P3 10 _ rfl
    have q1 := fun w => Lib.run_eql_slice_nil (P := Try.prog) w 24 9 none 0 0 0 0 Try.underlying24
    go_wp2_with fail
    refine (reg_nil s0 s1 s2 n3 n4 n5 s6 s7 s8 n9 n10 w3).mono ?_
    rintro e w4 ⟨rfl, B4⟩
    clear f0 f1 f2 f3 f4 f5 f6 f7 f8 f9 f10
    go_wp2
    go_ret
    exact ⟨rfl, belowThen (belowThen BB3 B4) ((Below.refl _ _).alloc (Nat.le_refl _) _)⟩
  | true =>
    go_wp2_with fail
    refine (cloneStr_iff y n n S w3 (by omega) E3).mono ?_
    rintro e w4 ⟨y4, rfl, B4, E4, hy4⟩
    have BB4 := belowThen BB3 B4
    have P4 := P3.below B4
    have F4 := E3.below B4
    have BQ := (Below.refl w4.heap.size w4).alloc (Nat.le_refl _) (.cells #[.string t0, .string t1, .string t2, .string t3, .slice y4 n n] 31)
    have PQ := At.new w4 #[.string t0, .string t1, .string t2, .string t3, .slice y4 n n] 31
    have P5 := P4.below BQ
    have f0 := P5 0 _ rfl
    have f1 := P5 1 _ rfl
    have f2 := P5 2 _ rfl
    have f3 := P5 3 _ rfl
    have f4 := P5 4 _ rfl
    have f5 := P5 5 _ rfl
    have f6 := P5 6 _ rfl
    have f7 := P5 7 _ rfl
    have f8 := P5 8 _ rfl
    have f9 := P5 9 _ rfl
    have f10 := P5 10 _ rfl
    have HR := hide' (reg_some s0 s1 s2 n3 n4 n5 s6 s7 s8 n9 n10 w4.heap.size t0 t1 t2 t3 y4 n n _ (PQ 0 _ rfl) (PQ 1 _ rfl) (PQ 2 _ rfl) (PQ 3 _ rfl) (PQ 4 _ rfl))
    have BB5 := belowThen BB4 BQ
    have E5 := E4.below BQ
    have F5 := F4.below BQ
    have HY := hide' hy4
    clear P3 P4 P5 PQ BB3 BB4 B4 BQ E3 E4 F4 hy4
    go_wp2_with fail
    refine HR.out.mono ?_
    rintro e w6 ⟨rfl, B6⟩
    have B7 := (Below.refl w6.heap.size w6).alloc (Nat.le_refl _) (.cells #[.string t0, .string t1, .string t2, .string t3, .slice y4 n n] 31)
    have HQ := hide' (same_any y4 y n n n S _ (by omega) ((E5.below B6).below B7) ((F5.below B6).below B7) HY.out)
    have BB7 := belowThen (belowThen BB5 B6) B7
    clear f0 f1 f2 f3 f4 f5 f6 f7 f8 f9 f10 HR E5 F5 B6 B7 BB5
    go_wp2_with fail
    refine HQ.out.mono ?_
    rintro e w8 ⟨rfl, B8⟩
    go_wp2
    go_ret
    exact ⟨rfl, belowThen BB7 B8⟩
end Go.Proofs.Qxb6603677a
