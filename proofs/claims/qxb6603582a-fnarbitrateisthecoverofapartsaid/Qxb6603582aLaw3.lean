import Derived.Test.Qxb6603582aPre
namespace Go.Proofs.Qxb6603582a
open Go.ChangeShapes Go.WideShapes Go.ChangeAt Go.RowKit Go.Deep
set_option linter.unusedVariables false

/-- The answer as a slice: its length, and what its cells hold. -/
def Got (w : World) (ga : Option Addr) (f k t : Nat) : Prop := ∀ j, j < k → ∃ g, ga = some ⟨g, 0, none⟩ ∧ w.cell? ⟨g, j * 2, none⟩ = some (.int .i64 ((f + j : Nat) + 1)) ∧ w.cell? ⟨g, j * 2 + 1, none⟩ = some (.int .i64 t)
theorem got_of {w : World} {base : Nat} {pv : Value} {f k t : Nat} (h : w.ownsRow base 30 2 pv k (pairsV f k t)) : ∃ ga cap, pv = .slice ga k cap ∧ Got w ga f k t := by
  obtain ⟨h1, h2⟩ := id h
  rcases h2 with ⟨rfl, rfl⟩ | ⟨g, cap, cur, rfl, hg, hh, hc, _⟩
  · exact ⟨none, 0, rfl, fun j hj => by omega⟩
  · refine ⟨some ⟨g, 0, none⟩, cap, rfl, fun j hj => ⟨g, rfl, ?_, ?_⟩⟩
    · rw [h.cellAt (j * 2) (by omega)]; exact (pairsV_at f k t j hj).1
    · rw [h.cellAt (j * 2 + 1) (by omega)]; exact (pairsV_at f k t j hj).2
theorem Got.below {w w' : World} {ga : Option Addr} {f k t : Nat} (h : Got w ga f k t) (hb : Below w.heap.size w w') : Got w' ga f k t := fun j hj => by
  obtain ⟨g, h1, h2, h3⟩ := h j hj
  exact ⟨g, h1, later hb h2, later hb h3⟩

theorem law_as {a b d : Int} {r : Bool} (ha : I64 a) (hb : I64 b) (hd : 0 ≤ d) (hr : apartB a b d = r) (w : World) :
    Calls Try.prog 9 #[.int .i64 a, .int .i64 b, .int .u64 d] w fun e w' => e = .returned (.bool r) ∧ w' = w := by
  have q := law_apart_q a b d w ha hb hd
  rw [hr] at q
  exact q

set_option maxRecDepth 100000 in
set_option maxHeartbeats 2000000 in
theorem law3 (a : Option Addr) (n c : Nat) (E : Nat → Int) (d t : Int) (w : World) (m : n ≤ maxLen) (hd : 0 ≤ d) (hI : ∀ i, i < n → I64 (E i)) (hE : Els w a n (fun i => .int .i64 (E i))) :
    Calls Try.prog 3 #[.slice a n c, .int .u64 d, .int .i64 t] w fun e w' => e = .returned (.bool true) ∧ Below w.heap.size w w' := by
  have HI := hide' hI
  clear hI
  go_enter Try.func3, Try.ntmps3
  go_wp2_with fail
  refine (zz5 a n c d t w m).mono ?_
  rintro e w0 ⟨⟨r, rfl, hr⟩, rfl⟩
  cases r with
  | false => go_wp2; go_ret; exact ⟨rfl, Below.refl _ _⟩
  | true =>
  have b0 := hr rfl
  clear hr m
  by_cases g0 : 4096 < n
  · go_wp2; go_ret; exact ⟨rfl, Below.refl _ _⟩
  by_cases g1 : t < 1
  · go_wp2; go_ret; exact ⟨rfl, Below.refl _ _⟩
  by_cases g2 : (n : Int) < t
  · go_wp2; go_ret; exact ⟨rfl, Below.refl _ _⟩
  go_wp2_with fail
  refine (ends_asc a n c E w b0 hE).mono ?_
  rintro e w1 ⟨⟨r, rfl, hr⟩, B1⟩
  cases r with
  | false => go_wp2; go_ret; exact ⟨rfl, B1⟩
  | true =>
  have hA := hr rfl
  clear hr
  obtain ⟨τ, rfl⟩ : ∃ τ : Nat, t = (τ : Int) + 1 := ⟨(t - 1).toNat, by omega⟩
  have hτ : τ < n := by omega
  clear g1 g2
  have i1 := hE.below B1
  go_wp2_with fail
  refine (copyEnds_any a n c E w1 b0 i1).mono ?_
  rintro e w2 ⟨y, rfl, B2, k2⟩
  have i2 := k2.els
  clear k2 i1 hE
  go_wp2_with fail
  refine (zz_arbitrate y n n E d τ w2 (by omega) hτ hd HI.out hA i2).mono ?_
  rintro e w3 ⟨pv, rfl, B3, ho⟩
  obtain ⟨ga, cap, hpv, hg⟩ := got_of ho
  subst hpv
  have i3 := i2.below B3
  have BB : Below w.heap.size w w3 := belowThen (belowThen B1 B2) B3
  clear ho i2 B1 B2 B3
  obtain ⟨b, hb⟩ : ∃ b, b = before E d (τ + 1) := ⟨_, rfl⟩
  obtain ⟨f, hf⟩ : ∃ f, f = first E d (τ + 1) := ⟨_, rfl⟩
  rw [← hb, ← hf] at hg ⊢
  have hfb : f ≤ b := by rw [hf, hb]; exact first_le E d (τ + 1)
  have hbt : b ≤ τ := by rw [hb]; exact before_lt E d (τ + 1)
  have BIN := hide' (fun i (h : i < b) => before_in E d (τ + 1) i (by rw [← hb]; exact h))
  have BOUT := hide' (fun i (h : b ≤ i) (hi : i < n) => before_out E d n (τ + 1) i hA hd (by omega) (by omega) (by rw [← hb]; exact h) hi)
  have CIN := hide' (fun i (h : i < f) => by have q := covered_in E d (τ + 1) i (by rw [← hf]; exact h); rw [← hb] at q; exact q)
  have COUT := hide' (fun i j (h : f ≤ i) (hi : i < b) (hj : j < n) (hj2 : apartB (E j) (E τ) d = true) => covered_out E d n (τ + 1) i j hA hd (by omega) (by omega) (by rw [← hf]; exact h) (by rw [← hb]; exact hi) hj hj2)
  clear hb hf hA
  obtain ⟨xt, hxt, ct⟩ := i3 τ hτ
  subst hxt
  have cts := i3
  go_wp2
  go_loopw [10, 11] (fun k i wr => ∃ j : Nat, j ≤ n ∧ i = .int .i64 j ∧ k = .int .i64 ((min j b - f : Nat)) ∧ Below w3.heap.size w3 wr) (fun _ i _ => n - (intOf i).toNat)
  case atStart => exact ⟨0, Nat.zero_le _, rfl, by simp, Below.refl _ _⟩
  case round =>
    obtain ⟨i, hi, rfl, rfl, hb⟩ := hrel
    by_cases hlt : i < n
    · have ci := later hb (i3.at hlt)
      by_cases hib : i < b
      · have hap : apartB (E i) (E τ) d = true := BIN.out i hib
        go_wp2_with fail
        refine (law_apart (E i) (E τ) d wr (HI.out i hlt) (HI.out τ hτ) hd).mono ?_
        rintro e w4 ⟨rfl, rfl⟩
        rw [hap]
        by_cases hif : i < f
        · have hpos : 0 < b := by omega
          obtain ⟨wo, rfl⟩ : ∃ wo : World, wo = wr := ⟨_, rfl⟩
          go_wp2
          go_loopw [12, 13] (fun v i wr => ∃ j : Nat, j ≤ b - 1 ∧ i = .int .i64 j ∧ v = .bool false ∧ Below w3.heap.size w3 wr) (fun _ i _ => n - (intOf i).toNat)
          case atStart => exact ⟨0, Nat.zero_le _, rfl, rfl, hb⟩
          case round =>
            obtain ⟨j, hj, rfl, rfl, hb2⟩ := hrel
            have hjn : j < n := by omega
            have ci := later hb2 (i3.at hlt)
            have cj := later hb2 (i3.at hjn)
            have hl1 : (j : Int) < (n : Int) := by omega
            have hl2 : (i : Int) < (n : Int) := by omega
            have CC := hide' (CIN.out i hif)
            cases q1 : apartB (E j) (E τ) d
            · have hne : j ≠ b - 1 := fun e => by have := CC.out.1; rw [← e] at this; rw [show τ + 1 - 1 = τ from rfl] at this; rw [q1] at this; cases this
              have HC1 := hide' (law_as (HI.out j hjn) (HI.out τ hτ) hd q1)
              have HC2 := HC1
              clear q1 CC
              go_wp2
              go_quiet ((first | (go_at_call_of 9 (Value.int IntKind.i64 (E τ)); exact Calls.quiet_of_same (HC1.out _)) | (go_at_call 9; exact Calls.quiet_of_same (HC2.out _))))
              go_wp2
              go_roundw
              case rel => exact ⟨j + 1, by omega, by go_num, rfl, below_drewN hb2 _⟩
              case measure => simp [intOf]; omega
            · cases q2 : apartB (E i) (E j) d
              · have hne : j ≠ b - 1 := fun e => by have := CC.out.2; rw [← e, q2] at this; cases this
                have HC1 := hide' (law_as (HI.out j hjn) (HI.out τ hτ) hd q1)
                have HC2 := hide' (law_as (HI.out i hlt) (HI.out j hjn) hd q2)
                clear q1 q2 CC
                go_wp2
                go_quiet ((first | (go_at_call_of 9 (Value.int IntKind.i64 (E τ)); exact Calls.quiet_of_same (HC1.out _)) | (go_at_call 9; exact Calls.quiet_of_same (HC2.out _))))
                go_wp2
                go_roundw
                case rel => exact ⟨j + 1, by omega, by go_num, rfl, below_drewN hb2 _⟩
                case measure => simp [intOf]; omega
              · have HC1 := hide' (law_as (HI.out j hjn) (HI.out τ hτ) hd q1)
                have HC2 := hide' (law_as (HI.out i hlt) (HI.out j hjn) hd q2)
                clear q1 q2
                go_wp2
                go_quiet ((first | (go_at_call_of 9 (Value.int IntKind.i64 (E τ)); exact Calls.quiet_of_same (HC1.out _)) | (go_at_call 9; exact Calls.quiet_of_same (HC2.out _))))
                go_wp2
                go_roundw
                case rel => exact ⟨i + 1, by omega, by go_num, by congr 1; omega, below_drewN hb2 _⟩
                case measure => simp [intOf]; omega
        · obtain ⟨wo, rfl⟩ : ∃ wo : World, wo = wr := ⟨_, rfl⟩
          go_wp2
          go_loopw [12, 13] (fun v i wr => ∃ j : Nat, j ≤ n ∧ i = .int .i64 j ∧ v = .bool false ∧ Below w3.heap.size w3 wr) (fun _ i _ => n - (intOf i).toNat)
          case atStart => exact ⟨0, Nat.zero_le _, rfl, rfl, hb⟩
          case round =>
            obtain ⟨j, hj, rfl, rfl, hb2⟩ := hrel
            by_cases hjn : j < n
            · have ci := later hb2 (i3.at hlt)
              have cj := later hb2 (i3.at hjn)
              have hl1 : (j : Int) < (n : Int) := by omega
              have hl2 : (i : Int) < (n : Int) := by omega
              cases q1 : apartB (E j) (E τ) d
              · have HC1 := hide' (law_as (HI.out j hjn) (HI.out τ hτ) hd q1)
                have HC2 := HC1
                clear q1
                go_wp2
                go_quiet ((first | (go_at_call_of 9 (Value.int IntKind.i64 (E τ)); exact Calls.quiet_of_same (HC1.out _)) | (go_at_call 9; exact Calls.quiet_of_same (HC2.out _))))
                go_wp2
                go_roundw
                case rel => exact ⟨j + 1, by omega, by go_num, rfl, below_drewN hb2 _⟩
                case measure => simp [intOf]; omega
              · have q2 := COUT.out i j (by omega) hib hjn q1
                have HC1 := hide' (law_as (HI.out j hjn) (HI.out τ hτ) hd q1)
                have HC2 := hide' (law_as (HI.out i hlt) (HI.out j hjn) hd q2)
                clear q1 q2
                go_wp2
                go_quiet ((first | (go_at_call_of 9 (Value.int IntKind.i64 (E τ)); exact Calls.quiet_of_same (HC1.out _)) | (go_at_call 9; exact Calls.quiet_of_same (HC2.out _))))
                go_wp2
                go_roundw
                case rel => exact ⟨j + 1, by omega, by go_num, rfl, below_drewN hb2 _⟩
                case measure => simp [intOf]; omega
            · obtain ⟨g, hga, e0, e1⟩ := hg (i - f) (by omega)
              subst hga
              have e0' := later hb2 e0
              have e1' := later hb2 e1
              have hmin : min i b - f = i - f := by omega
              have hfi : ((f + (i - f) : Nat) : Int) = (i : Int) := by omega
              rw [hfi] at e0'
              clear e0 e1 hfi
              rw [hmin]
              have hkl : ((i - f : Nat) : Int) < ((b - f : Nat) : Int) := by omega
              go_wp2
              go_roundw
              case rel => exact ⟨i + 1, by omega, by go_num, by congr 1; omega, hb2⟩
              case measure => simp [intOf]; omega
      · have hap : apartB (E i) (E τ) d = false := BOUT.out i (by omega) hlt
        go_wp2_with fail
        refine (law_apart (E i) (E τ) d wr (HI.out i hlt) (HI.out τ hτ) hd).mono ?_
        rintro e w4 ⟨rfl, rfl⟩
        rw [hap]
        go_wp2
        go_roundw
        case rel => exact ⟨i + 1, by omega, by go_num, by congr 1; omega, hb⟩
        case measure => simp [intOf]; omega
    · obtain rfl : i = n := by omega
      have hmin : min i b = b := by omega
      go_wp2
      go_ret
      exact ⟨rfl, belowThen BB hb⟩
end Go.Proofs.Qxb6603582a
