import Derived.Test.Qxb6603582aMat
namespace Go.Proofs.Qxb6603582a
open Go.ChangeShapes Go.WideShapes Go.ChangeAt Go.RowKit Go.Deep
set_option linter.unusedVariables false

/-- The answer as a slice: its length, and what its cells hold; it lies from block B on. -/
def Got4 (B : Nat) (w : World) (ga : Option Addr) (f k t : Nat) : Prop := ∀ j, j < k → ∃ g, ga = some ⟨g, 0, none⟩ ∧ B ≤ g ∧ w.cell? ⟨g, j * 2, none⟩ = some (.int .i64 ((f + j : Nat) + 1)) ∧ w.cell? ⟨g, j * 2 + 1, none⟩ = some (.int .i64 t)
theorem got4_of {w : World} {base : Nat} {pv : Value} {f k t : Nat} (h : w.ownsRow base 30 2 pv k (pairsV f k t)) : ∃ ga cap, pv = .slice ga k cap ∧ Got4 base w ga f k t := by
  obtain ⟨h1, h2⟩ := id h
  rcases h2 with ⟨rfl, rfl⟩ | ⟨g, cap, cur, rfl, hg, hh, hc, _⟩
  · exact ⟨none, 0, rfl, fun j hj => by omega⟩
  · refine ⟨some ⟨g, 0, none⟩, cap, rfl, fun j hj => ⟨g, rfl, hg, ?_, ?_⟩⟩
    · rw [h.cellAt (j * 2) (by omega)]; exact (pairsV_at f k t j hj).1
    · rw [h.cellAt (j * 2 + 1) (by omega)]; exact (pairsV_at f k t j hj).2
theorem law_as {a b d : Int} {r : Bool} (ha : I64 a) (hb : I64 b) (hd : 0 ≤ d) (hr : apartB a b d = r) (w : World) :
    Calls Try.prog 9 #[.int .i64 a, .int .i64 b, .int .u64 d] w fun e w' => e = .returned (.bool r) ∧ w' = w := by
  have q := law_apart_q a b d w ha hb hd
  rw [hr] at q
  exact q
/-- A product of two small numbers. -/
theorem mul_small {x n : Nat} (hx : x ≤ 256) (hn : n ≤ 256) : x * n ≤ 65536 := Nat.mul_le_mul hx hn

set_option maxRecDepth 100000 in
set_option maxHeartbeats 2000000 in
theorem law4 (a : Option Addr) (n c : Nat) (E : Nat → Int) (d : Int) (w : World) (m : n ≤ maxLen) (hd : 0 ≤ d) (hI : ∀ i, i < n → I64 (E i)) (hE : Els w a n (fun i => .int .i64 (E i))) :
    Calls Try.prog 4 #[.slice a n c, .int .u64 d] w fun e w' => e = .returned (.bool true) ∧ Below w.heap.size w w' := by
  have HI := hide' hI
  clear hI
  go_enter Try.func4, Try.ntmps4
  go_wp2_with fail
  refine (zz10 a n c d w m).mono ?_
  rintro e w0 ⟨⟨r, rfl, hr⟩, rfl⟩
  cases r with
  | false => go_wp2; go_ret; exact ⟨rfl, Below.refl _ _⟩
  | true =>
  have b0 := hr rfl
  clear hr m
  by_cases g0 : 256 < n
  · go_wp2; go_ret; exact ⟨rfl, Below.refl _ _⟩
  go_wp2_with fail
  refine (ends_asc a n c E w b0 hE).mono ?_
  rintro e w1 ⟨⟨r, rfl, hr⟩, B1⟩
  cases r with
  | false => go_wp2; go_ret; exact ⟨rfl, B1⟩
  | true =>
  have hA := hr rfl
  clear hr
  have i1 := hE.below B1
  go_wp2_with fail
  refine (copyEnds_any a n c E w1 b0 i1).mono ?_
  rintro e w2 ⟨y, rfl, B2, k2⟩
  have i2 := k2.els
  have BB : Below w.heap.size w w2 := belowThen B1 B2
  clear k2 i1 hE B1 B2
  have hnn := mul_small (show n ≤ 256 by omega) (show n ≤ 256 by omega)
  have mk := run_make_row' (P := Try.prog) 32 4 (.bool false) 1 Try.underlying32 Try.info4 rfl .i64 .i64 (n * n) (by omega) (by omega)
  rw [show ((n * n : Nat) : Int) = (n : Int) * (n : Int) from by simp] at mk
  have p0 : (0 : Int) ≤ (n : Int) * (n : Int) := by rw [show (n : Int) * (n : Int) = ((n * n : Nat) : Int) from by simp]; omega
  have p1 : (n : Int) * (n : Int) ≤ 65536 := by rw [show (n : Int) * (n : Int) = ((n * n : Nat) : Int) from by simp]; omega
  go_wp2
  clear mk
  obtain ⟨br, hbr⟩ : ∃ br, br = w2.heap.size := ⟨_, rfl⟩
  rw [← hbr]
  have HBR := hide' hbr
  clear hbr
  go_loopw [7] (fun i wr => ∃ τ : Nat, τ ≤ n ∧ i = .int .i64 ((τ : Int) + 1) ∧ Below br w2 wr ∧ Hid (Mat wr br n (R1 E d τ))) (fun i _ => n + 1 - (intOf i).toNat)
  case atStart => exact ⟨0, Nat.zero_le _, rfl, (Below.refl _ _).alloc (by rw [HBR.out]; exact Nat.le_refl _) _, by have q := mat_made w2 n; rw [← HBR.out] at q; exact q.congr fun x y _ _ => (R1_zero E d x y).symm⟩
  case round =>
    obtain ⟨τ, hτ, rfl, hb, HM⟩ := hrel
    have Er : Els wr y n (fun i => .int .i64 (E i)) := i2.below (by rw [← HBR.out]; exact hb)
    have hlt := HM.out.lt
    by_cases hτn : τ < n
    · obtain ⟨wo, rfl⟩ : ∃ wo : World, wo = wr := ⟨_, rfl⟩
      go_wp2_with fail
      refine (zz_arbitrate y n n E d τ wo (by omega) hτn hd HI.out hA Er).mono ?_
      rintro e w3 ⟨pv, rfl, B3, ho⟩
      obtain ⟨ga, cap, hpv, hg⟩ := got4_of ho
      subst hpv
      have M3 : Mat w3 br n (R1 E d τ) := HM.out.of_block (B3.block br hlt)
      have BO : Below br w2 w3 := hb.trans (B3.mono (by omega))
      have HR := hide' (fun x y (hx : x < n) => R21 E d n τ x y hA hd hτn hx)
      have hfb := first_le E d (τ + 1)
      have hbt := before_lt E d (τ + 1)
      generalize before E d (τ + 1) = b at *
      generalize first E d (τ + 1) = f at *
      clear ho B3 HM Er i2 hA
      go_wp2
      go_loopw [9] (fun i wr => ∃ κ : Nat, κ ≤ b - f ∧ i = .int .i64 κ ∧ But br w3 wr ∧ Hid (Mat wr br n (R2 E d τ f κ))) (fun i _ => b - f - (intOf i).toNat)
      case atStart => exact ⟨0, Nat.zero_le _, rfl, But.refl _ _, M3.congr fun x y _ _ => R12 E d τ f x y⟩
      case round =>
        obtain ⟨κ, hκ, rfl, hbut, HM2⟩ := hrel
        by_cases hκl : κ < b - f
        · obtain ⟨g, hga, hgB, e0, e1⟩ := hg κ hκl
          subst hga
          obtain ⟨υ, hυ⟩ : ∃ υ, υ = f + κ := ⟨_, rfl⟩
          rw [← hυ] at e0
          have e0' := hbut.cell (by show g ≠ br; omega) e0
          have e1' := hbut.cell (by show g ≠ br; omega) e1
          have hut : υ < τ := by omega
          have hun : υ < n := by omega
          have M2 := HM2.out
          have cst := M2.cell hun hτn
          have cfz := M2.frozen
          have lt1 := lin_lt hun hτn
          have q0 : (0 : Int) ≤ (υ : Int) * (n : Int) := by rw [show (υ : Int) * (n : Int) = ((υ * n : Nat) : Int) from by simp]; omega
          have q1 : (υ : Int) * (n : Int) + (τ : Int) < (n : Int) * (n : Int) := by rw [show (υ : Int) * (n : Int) + (τ : Int) = ((υ * n + τ : Nat) : Int) from by simp, show (n : Int) * (n : Int) = ((n * n : Nat) : Int) from by simp]; omega
          have HU := hide' hυ
          have MS : Hid (Mat (wr.setCell ⟨br, υ * n + τ, none⟩ (.bool true)) br n (R3 E d τ f κ 0)) := (M2.set hun hτn).congr fun x y _ _ => by subst hυ; exact R23 E d τ f κ x y
          have BS := hide' (hbut.setCell (υ * n + τ) (.bool true))
          clear hυ e0 e1 M2 HM2 hbut
          go_wp2
          clear e0' e1' cst cfz lt1 q0 q1
          obtain ⟨wi, hwi⟩ : ∃ wi : World, wi = wr.setCell ⟨br, υ * n + τ, none⟩ (.bool true) := ⟨_, rfl⟩
          rw [← hwi]
          rw [← hwi] at MS BS
          clear hwi
          go_loopw [14] (fun i wr => ∃ x0 : Nat, x0 ≤ n ∧ i = .int .i64 x0 ∧ But br w3 wr ∧ Hid (Mat wr br n (R3 E d τ f κ x0))) (fun i _ => n - (intOf i).toNat)
          case atStart => exact ⟨0, Nat.zero_le _, rfl, BS.out, MS.out⟩
          case round =>
            obtain ⟨x0, hx0, rfl, hbut, HM3⟩ := hrel
            by_cases hxn : x0 < n
            · have M3' := HM3.out
              have crd := M3'.cell hxn hun
              rw [R3_old E d τ f κ x0 x0 υ hut] at crd
              have cwr := M3'.cell hxn hτn
              have cfz := M3'.frozen
              have lt2 := lin_lt hxn hτn
              have lt3 := lin_lt hxn hun
              have q0 : (0 : Int) ≤ (x0 : Int) * (n : Int) := by rw [show (x0 : Int) * (n : Int) = ((x0 * n : Nat) : Int) from by simp]; omega
              have q1 : (x0 : Int) * (n : Int) + (τ : Int) < (n : Int) * (n : Int) := by rw [show (x0 : Int) * (n : Int) + (τ : Int) = ((x0 * n + τ : Nat) : Int) from by simp, show (n : Int) * (n : Int) = ((n * n : Nat) : Int) from by simp]; omega
              have q2 : (x0 : Int) * (n : Int) + (υ : Int) < (n : Int) * (n : Int) := by rw [show (x0 : Int) * (n : Int) + (υ : Int) = ((x0 * n + υ : Nat) : Int) from by simp, show (n : Int) * (n : Int) = ((n * n : Nat) : Int) from by simp]; omega
              cases hap : apartB (E x0) (E υ) d
              · rw [hap] at crd
                have MN := hide' (M3'.congr fun x y _ _ => R33_no E d τ f κ x0 x y (by rw [← HU.out]; exact hap))
                clear M3' HM3 hap
                go_wp2
                go_roundw
                case rel => exact ⟨x0 + 1, by omega, by go_num, hbut, MN.out⟩
                case measure => simp [intOf]; omega
              · rw [hap] at crd
                have MN := hide' ((M3'.set hxn hτn).congr fun x y _ _ => R33_yes E d τ f κ x0 x y (by rw [← HU.out]; exact hap))
                clear M3' HM3 hap
                go_wp2
                go_roundw
                case rel => exact ⟨x0 + 1, by omega, by go_num, hbut.setCell _ _, MN.out⟩
                case measure => simp [intOf]; omega
            · obtain rfl : x0 = n := by omega
              have MN := hide' (HM3.out.congr fun x y hx _ => R32 E d τ f κ x0 x y hx)
              clear HM3
              go_wp2
              go_roundw
              case rel => exact ⟨κ + 1, by omega, by go_num, hbut, MN.out⟩
              case measure => simp [intOf]; omega
        · obtain rfl : κ = b - f := by omega
          have MN := hide' (HM2.out.congr fun x y hx _ => HR.out x y hx)
          clear HM2
          go_wp2
          go_roundw
          case rel => exact ⟨τ + 1, by omega, by go_num, BO.trans (hbut.below (Nat.le_refl _)), MN.out⟩
          case measure => simp [intOf]; omega
    · obtain rfl : τ = n := by omega
      have HM1 := hide' (HM.out.congr fun x y _ hy => R1_at E d τ x y hy)
      have BO : Below w.heap.size w wr := BB.trans (hb.mono (by have := BB.size; rw [HBR.out]; exact this))
      obtain ⟨wo, rfl⟩ : ∃ wo : World, wo = wr := ⟨_, rfl⟩
      clear HM hb i2 hA BB
      go_wp2
      go_loopw [15] (fun i wr => ∃ p : Nat, p ≤ τ ∧ i = .int .i64 p ∧ Below wo.heap.size wo wr) (fun i _ => τ - (intOf i).toNat)
      case atStart => exact ⟨0, Nat.zero_le _, rfl, Below.refl _ _⟩
      case round =>
        obtain ⟨p, hp, rfl, hb4⟩ := hrel
        by_cases hpn : p < τ
        · obtain ⟨x1, hx1, c1⟩ := Er p hpn
          subst hx1
          obtain ⟨w4, rfl⟩ : ∃ w4 : World, w4 = wr := ⟨_, rfl⟩
          go_wp2
          go_loopw [16] (fun i wr => ∃ q : Nat, q ≤ τ ∧ i = .int .i64 q ∧ Below wo.heap.size wo wr) (fun i _ => τ - (intOf i).toNat)
          case atStart => exact ⟨0, Nat.zero_le _, rfl, hb4⟩
          case round =>
            obtain ⟨q, hq, rfl, hb5⟩ := hrel
            by_cases hqn : q < τ
            · have c1' := later hb5 c1
              have c2' := later hb5 (Er.at hqn)
              have c3' := later hb5 (HM1.out.cell hpn hqn)
              have lt1 := lin_lt hpn hqn
              have hmul := mul_small (show p ≤ 256 by omega) (show τ ≤ 256 by omega)
              have z0 : (0 : Int) ≤ (p : Int) * (τ : Int) := by rw [show (p : Int) * (τ : Int) = ((p * τ : Nat) : Int) from by simp]; omega
              have z1 : (p : Int) * (τ : Int) + (q : Int) < (τ : Int) * (τ : Int) := by rw [show (p : Int) * (τ : Int) + (q : Int) = ((p * τ + q : Nat) : Int) from by simp, show (τ : Int) * (τ : Int) = ((τ * τ : Nat) : Int) from by simp]; omega
              have z2 : (0 : Int) ≤ (p : Int) * (τ : Int) + (q : Int) := by omega
              have v1 := Go.PlainAid.i64_mul p τ (by omega)
              have v2 := Go.PlainAid.i64_lin p q τ (by omega)
              have v3 := Go.PlainAid.toNat_lin p q τ
              have hl1 : (p : Int) < (τ : Int) := by omega
              have hl2 : (q : Int) < (τ : Int) := by omega
              cases hap : apartB (E p) (E q) d
              all_goals
                have HC := hide' (law_as (HI.out p hpn) (HI.out q hqn) hd hap)
                rw [hap] at c3'
                clear hap
                go_wp2
                go_quiet ((go_at_call 9; exact Calls.quiet_of_same (HC.out _)))
                go_wp2
                go_roundw
                case rel => exact ⟨q + 1, by omega, by go_num, below_drewN hb5 _⟩
                case measure => simp [intOf]; omega
            · go_wp2
              go_roundw
              case rel => exact ⟨p + 1, by omega, by go_num, hb5⟩
              case measure => simp [intOf]; omega
        · go_wp2
          go_ret
          exact ⟨rfl, belowThen BO hb4⟩
end Go.Proofs.Qxb6603582a
