import Derived.Test.Qxb6602786aZZCand
namespace Go.Proofs.Qxb6602786a
open Go.ChangeShapes Go.WideShapes Go.ChangeAt Go.RowKit Go.Deep
set_option linter.unusedVariables false

set_option maxHeartbeats 1000000 in
theorem zz15 (a0 a1 a2 a3 a4 a5 : Option Addr) (l0 c0 l1 c1 l2 c2 l3 c3 l4 c4 l5 c5 : Nat) (n6 n7 n8 : Int) (w : World) (m0 : l0 ≤ maxLen) (m1 : l1 ≤ maxLen) (m2 : l2 ≤ maxLen) (m3 : l3 ≤ maxLen) (m4 : l4 ≤ maxLen) (m5 : l5 ≤ maxLen) :
    Calls Try.prog 15 #[.slice a0 l0 c0, .slice a1 l1 c1, .slice a2 l2 c2, .slice a3 l3 c3, .slice a4 l4 c4, .slice a5 l5 c5, .int .i64 n6, .int .i64 n7, .int .i64 n8] w fun e w' => Says (l0 ≤ 1048576 ∧ l1 ≤ 1048576 ∧ l2 ≤ 1048576 ∧ l3 ≤ 1048576 ∧ l4 ≤ 1048576 ∧ l5 ≤ 1048576) e ∧ w = w' := by
  unfold maxLen at m0 m1 m2 m3 m4 m5
  go_enter Try.func15, Try.ntmps15
  go_wp2
  all_goals go_ret
  all_goals first | exact ⟨Says.no, rfl⟩ | exact ⟨Says.yes ⟨by omega, by omega, by omega, by omega, by omega, by omega⟩, rfl⟩

set_option maxRecDepth 100000 in
set_option maxHeartbeats 2000000 in
theorem law4_core (s : Att) (a0 a1 a2 a3 a4 a5 : Option Addr) (c0 l1 c1 l2 c2 c3 l4 c4 l5 c5 : Nat) (next : Int) (w : World) (m0 : s.n ≤ maxLen) (m1 : l1 ≤ maxLen) (m2 : l2 ≤ maxLen) (m3 : s.q ≤ maxLen) (m4 : l4 ≤ maxLen) (m5 : l5 ≤ maxLen)
    (h0 : Els w a0 s.n (fun i => .int .i64 (s.D i))) (h1 : Els w a1 l1 (fun i => .int .i64 (s.DF i))) (h2 : Els w a2 l2 (fun i => .bool (s.P i))) (h3 : Els w a3 s.q (fun i => .int .i64 (s.E i))) (h4 : Els w a4 l4 (fun i => .int .i64 (s.EF i))) (h5 : Els w a5 l5 (fun i => .bool (s.U i))) :
    Calls Try.prog 4 #[.slice a0 s.n c0, .slice a1 l1 c1, .slice a2 l2 c2, .slice a3 s.q c3, .slice a4 l4 c4, .slice a5 l5 c5, .int .i64 next, .int .i64 s.bd, .int .i64 s.tx] w fun e w' => e = .returned (.bool true) ∧ Below w.heap.size w w' := by
  go_enter Try.func4, Try.ntmps4
  go_wp2_with fail
  refine (zz15 a0 a1 a2 a3 a4 a5 s.n c0 l1 c1 l2 c2 s.q c3 l4 c4 l5 c5 _ _ _ w m0 m1 m2 m3 m4 m5).mono ?_
  rintro e w0 ⟨⟨r, rfl, hr⟩, rfl⟩
  cases r with
  | false => go_wp2; go_ret; exact ⟨rfl, Below.refl _ _⟩
  | true =>
  obtain ⟨b0, b1, b2, b3, b4, b5⟩ := hr rfl
  clear hr m0 m1 m2 m3 m4 m5
  by_cases g0 : 4096 < s.n
  · go_wp2; go_ret; exact ⟨rfl, Below.refl _ _⟩
  by_cases g1 : 4096 < l1
  · go_wp2; go_ret; exact ⟨rfl, Below.refl _ _⟩
  by_cases g2 : 4096 < l2
  · go_wp2; go_ret; exact ⟨rfl, Below.refl _ _⟩
  by_cases g3 : 4096 < s.q
  · go_wp2; go_ret; exact ⟨rfl, Below.refl _ _⟩
  by_cases g4 : 4096 < l4
  · go_wp2; go_ret; exact ⟨rfl, Below.refl _ _⟩
  by_cases g5 : 4096 < l5
  · go_wp2; go_ret; exact ⟨rfl, Below.refl _ _⟩
  go_wp2_with fail
  refine (cand_domain a0 a1 a2 a3 a4 a5 s.n c0 l1 c1 l2 c2 s.q c3 l4 c4 l5 c5 s.D s.E s.P next w b0 b1 b2 b3 b4 b5 h0 h2 h3).mono ?_
  rintro e w1 ⟨⟨r, rfl, hr⟩, B1⟩
  cases r with
  | false => go_wp2; go_ret; exact ⟨rfl, B1⟩
  | true =>
  obtain ⟨q1, q2, q4, q5, q6, q7, qA, qB, qP⟩ := hr rfl
  clear hr
  subst q1 q4
  obtain ⟨nx, rfl⟩ : ∃ nx : Nat, next = nx := ⟨next.toNat, by omega⟩
  have qP' : ∀ c, c < nx → s.P c = true := fun c hc => qP c (by omega)
  have QP := hide' qP'
  have hnx : nx ≤ s.n := by omega
  clear qP qP' q6 q7
  have i0 := h0.below B1
  have i1 := h1.below B1
  have i2 := h2.below B1
  have i3 := h3.below B1
  have i4 := h4.below B1
  have i5 := h5.below B1
  clear h0 h1 h2 h3 h4 h5
  go_wp2_with fail
  refine (clone64_any a0 s.n c0 s.D w1 b0 i0).mono ?_
  rintro e w2 ⟨y0, rfl, x0, k0⟩
  go_wp2_with fail
  refine (cloneInt_any a1 s.n c1 s.DF w2 b0 (i1.below x0)).mono ?_
  rintro e w3 ⟨y1, rfl, x1, k1⟩
  go_wp2_with fail
  refine (cloneBool_any a2 l2 c2 s.P w3 b2 ((i2.below x0).below x1)).mono ?_
  rintro e w4 ⟨y2, rfl, x2, k2⟩
  go_wp2_with fail
  refine (clone64_any a3 s.q c3 s.E w4 b3 (((i3.below x0).below x1).below x2)).mono ?_
  rintro e w5 ⟨y3, rfl, x3, k3⟩
  go_wp2_with fail
  refine (cloneInt_any a4 s.q c4 s.EF w5 b3 ((((i4.below x0).below x1).below x2).below x3)).mono ?_
  rintro e w6 ⟨y4, rfl, x4, k4⟩
  go_wp2_with fail
  refine (cloneBool_any a5 l5 c5 s.U w6 b5 (((((i5.below x0).below x1).below x2).below x3).below x4)).mono ?_
  rintro e w7 ⟨y5, rfl, x5, k5⟩
  have L : Lies s w7 y0 y1 y2 y3 y4 y5 l2 l5 := ⟨(((((k0.els.below x1).below x2).below x3).below x4).below x5), ((((k1.els.below x2).below x3).below x4).below x5), (((k2.els.below x3).below x4).below x5), ((k3.els.below x4).below x5), (k4.els.below x5), k5.els⟩
  have BB : Below w.heap.size w w7 := (belowThen (belowThen (belowThen (belowThen (belowThen (belowThen B1 x0) x1) x2) x3) x4) x5)
  clear k0 k1 k2 k3 k4 k5 x0 x1 x2 x3 x4 x5 i0 i1 i2 i3 i4 i5 B1
  go_wp2
  go_loopw [20, 21] (fun v i wr => ∃ k : Nat, k ≤ s.n + s.q ∧ i = .int .i64 k ∧ v = .int .i64 (s.count k : Nat) ∧ Below w7.heap.size w7 wr) (fun _ i _ => s.n + s.q - (intOf i).toNat)
  case atStart => exact ⟨0, Nat.zero_le _, rfl, rfl, Below.refl _ _⟩
  case round =>
    obtain ⟨k, hk, rfl, rfl, hb⟩ := hrel
    have hck := s.count_le k
    by_cases hlt : k < s.n + s.q
    · have Lr := L.below hb
      cases he : s.elig k
      · have HC := hide' (show s.count (k + 1) = s.count k by simp [Att.count, he])
        go_wp2_with fail
        refine (eligible s y0 y1 y2 y3 y4 y5 _ _ l2 _ _ _ l5 _ wr k b0 b3 q2 q5 Lr hlt).mono ?_
        rintro e w9 ⟨rfl, rfl⟩
        go_wp2
        go_roundw
        case rel => exact ⟨k + 1, by omega, by go_num, by rw [HC.out], hb⟩
        case measure => simp [intOf]; omega
      · have HC := hide' (show s.count (k + 1) = s.count k + 1 by simp [Att.count, he])
        go_wp2_with fail
        refine (eligible s y0 y1 y2 y3 y4 y5 _ _ l2 _ _ _ l5 _ wr k b0 b3 q2 q5 Lr hlt).mono ?_
        rintro e w9 ⟨rfl, rfl⟩
        go_wp2
        go_roundw
        case rel => exact ⟨k + 1, by omega, by go_num, by rw [HC.out]; go_num, hb⟩
        case measure => simp [intOf]; omega
    · obtain rfl : k = s.n + s.q := by omega
      obtain ⟨wo, rfl⟩ : ∃ wo : World, wo = wr := ⟨_, rfl⟩
      have Lo := L.below hb
      have BO : Below w.heap.size w wo := belowThen BB hb
      clear L hb BB
      go_wp2
      go_loopw [22, 23, 24] (fun p v i wr => ∃ k : Nat, k ≤ s.n + s.q ∧ p = .int .i64 ((k : Int) - 1) ∧ v = .int .i64 (s.count k : Nat) ∧ i = .int .i64 (s.count k : Nat) ∧ Below wo.heap.size wo wr) (fun p _ _ _ => s.n + s.q - (intOf p + 1).toNat)
      case atStart => exact ⟨0, Nat.zero_le _, rfl, rfl, rfl, Below.refl _ _⟩
      case round =>
        obtain ⟨k, hk, rfl, rfl, rfl, hb⟩ := hrel
        have hck2 := s.count_le k
        have Lr := Lo.below hb
        go_wp2_with fail
        refine (zz_candidate s y0 y1 y2 y3 y4 y5 _ _ l2 _ _ _ l5 _ nx ((k : Int) - 1) wr b0 b3 q2 q5 (by omega) (by omega) hnx QP.out qA qB Lr).mono ?_
        rintro e w8 ⟨⟨r0, rfl, hr0⟩, B8⟩
        rcases hr0 with ⟨rfl, hn⟩ | ⟨c, rfl, hc, hkc, he, hn⟩
        · have HC := hide' (show s.count (s.n + s.q) = s.count k from s.count_end k _ hk fun x h1 h2 => hn x h2 (by omega))
          clear hn
          go_wp2
          go_ret
          exact ⟨by rw [HC.out]; simp, belowThen BO (belowThen hb B8)⟩
        · have HC := hide' (show s.count (c + 1) = s.count k + 1 from s.count_step k c (by omega) (fun x h1 h2 => hn x h2 (by omega)) he)
          have HE := hide' he
          have hc1 : ((c : Int) == -1) = false := by simp
          have hkc' : ¬ (c : Int) ≤ (k : Int) - 1 := by omega
          clear hn he
          go_wp2_with fail
          refine (eligible s y0 y1 y2 y3 y4 y5 _ _ l2 _ _ _ l5 _ w8 c b0 b3 q2 q5 (Lr.below B8) hc).mono ?_
          rintro e w9 ⟨rfl, rfl⟩
          rw [HE.out]
          go_wp2
          go_roundw
          case rel =>
            (repeat apply Exists.intro)
            exact ⟨⟨c + 1, by omega, by go_num, by rw [HC.out]; go_num, by rw [HC.out]; go_num, belowThen hb B8⟩, rfl⟩
          case measure => simp [intOf]; omega

theorem law4 (a0 a1 a2 a3 a4 a5 : Option Addr) (l0 c0 l1 c1 l2 c2 l3 c3 l4 c4 l5 c5 : Nat) (D DF : Nat → Int) (P : Nat → Bool) (E EF : Nat → Int) (U : Nat → Bool) (next bd tx : Int) (w : World) (m0 : l0 ≤ maxLen) (m1 : l1 ≤ maxLen) (m2 : l2 ≤ maxLen) (m3 : l3 ≤ maxLen) (m4 : l4 ≤ maxLen) (m5 : l5 ≤ maxLen)
    (h0 : Els w a0 l0 (fun i => .int .i64 (D i))) (h1 : Els w a1 l1 (fun i => .int .i64 (DF i))) (h2 : Els w a2 l2 (fun i => .bool (P i))) (h3 : Els w a3 l3 (fun i => .int .i64 (E i))) (h4 : Els w a4 l4 (fun i => .int .i64 (EF i))) (h5 : Els w a5 l5 (fun i => .bool (U i))) :
    Calls Try.prog 4 #[.slice a0 l0 c0, .slice a1 l1 c1, .slice a2 l2 c2, .slice a3 l3 c3, .slice a4 l4 c4, .slice a5 l5 c5, .int .i64 next, .int .i64 bd, .int .i64 tx] w fun e w' => e = .returned (.bool true) ∧ Below w.heap.size w w' :=
  law4_core ⟨l0, l3, D, DF, P, E, EF, U, bd, tx⟩ a0 a1 a2 a3 a4 a5 c0 l1 c1 l2 c2 c3 l4 c4 l5 c5 next w m0 m1 m2 m3 m4 m5 h0 h1 h2 h3 h4 h5
end Go.Proofs.Qxb6602786a
