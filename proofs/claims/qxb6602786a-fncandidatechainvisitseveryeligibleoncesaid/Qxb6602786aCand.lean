import Derived.Test.Qxb6602786aElig
import Derived.Deep.DeepCutAuto
import Derived.Deep.CutBlock
namespace Go.Proofs.Qxb6602786a
open Go.ChangeShapes Go.WideShapes Go.ChangeAt Go.RowKit Go.Deep
set_option linter.unusedVariables false

/-- The call answers an int of which X holds. -/
def Gives (X : Int → Prop) (e : Ending) : Prop := ∃ r, e = .returned (.int .i64 r) ∧ X r
theorem Gives.mk {X : Int → Prop} {r : Int} (h : X r) : Gives X (.returned (.int .i64 r)) := ⟨r, rfl, h⟩

/-- The search in memory at block bs. -/
structure Search (s : Att) (w : World) (bs bd be : Nat) (ap au : Option Addr) (lp cp lu cu next : Nat) (S1 S2 : Nat → Bool) : Prop where
  f0 : w.cell? ⟨bs, 0, none⟩ = some (.slice (some ⟨bd, 0, none⟩) s.n s.n)
  f1 : w.cell? ⟨bs, 1, none⟩ = some (.slice (some ⟨be, 0, none⟩) s.q s.q)
  f2 : w.cell? ⟨bs, 2, none⟩ = some (.slice ap lp cp)
  f3 : w.cell? ⟨bs, 3, none⟩ = some (.slice au lu cu)
  f4 : w.cell? ⟨bs, 4, none⟩ = some (.int .i64 next)
  f5 : w.cell? ⟨bs, 5, none⟩ = some (.int .i64 s.bd)
  f6 : w.cell? ⟨bs, 6, none⟩ = some (.int .i64 s.tx)
  d : w.rowIs bd 44 (s.n * 5) (attV s.D s.DF S1)
  e : w.rowIs be 44 (s.q * 5) (attV s.E s.EF S2)
  p : Els w ap lp (fun i => .bool (s.P i))
  u : Els w au lu (fun i => .bool (s.U i))
theorem Search.below {s : Att} {w w' : World} {bs bd be : Nat} {ap au : Option Addr} {lp cp lu cu next : Nat} {S1 S2 : Nat → Bool} (h : Search s w bs bd be ap au lp cp lu cu next S1 S2) (hb : Below w.heap.size w w') : Search s w' bs bd be ap au lp cp lu cu next S1 S2 :=
  ⟨later hb h.f0, later hb h.f1, later hb h.f2, later hb h.f3, later hb h.f4, later hb h.f5, later hb h.f6, h.d.of_block (hb.block _ h.d.lt), h.e.of_block (hb.block _ h.e.lt), h.p.below hb, h.u.below hb⟩
theorem attV_call {C M : Nat → Int} {S : Nat → Bool} (i : Nat) : attV C M S (i * 5) = .int .i64 (C i) := by
  unfold attV
  rw [Nat.mul_div_cancel _ (by omega), Nat.mul_mod_left]
  rfl
theorem attV_from {C M : Nat → Int} {S : Nat → Bool} (i : Nat) : attV C M S (i * 5 + 3) = .int .i64 (M i) := by
  unfold attV
  rw [show (i * 5 + 3) / 5 = i from by omega, show (i * 5 + 3) % 5 = 3 from by omega]
  rfl

theorem hide' {p : Prop} (h : p) : Hid p := h
set_option maxRecDepth 100000 in
set_option maxHeartbeats 2000000 in
theorem candidate_any (s : Att) (bs bd be : Nat) (ap au : Option Addr) (lp cp lu cu next : Nat) (S1 S2 : Nat → Bool) (after : Int) (w : World)
    (b0 : s.n ≤ 1048576) (b3 : s.q ≤ 1048576) (h2 : s.n ≤ lp) (h5 : s.q ≤ lu) (hlo : -1073741824 ≤ after) (hhi : after ≤ 1073741824) (hnext : next ≤ s.n)
    (hP : ∀ c, c < next → s.P c = true) (hA : Asc s.n s.D) (hB : Asc s.q s.E) (hS : Search s w bs bd be ap au lp cp lu cu next S1 S2) :
    Calls Try.prog 24 #[.pointer (some ⟨bs, 0, none⟩), .int .i64 after] w fun e w' => Gives (s.leastTo after (s.n + s.q)) e ∧ Below w.heap.size w w' := by
  have f0 := hS.f0
  have f4 := hS.f4
  obtain ⟨k0, hk0⟩ : ∃ k0 : Nat, (k0 : Int) = max (after + 1) next := ⟨(max (after + 1) next).toNat, by omega⟩
  have HK : Hid ((k0 : Int) = max (after + 1) next) := hk0
  have hk0le : k0 ≤ 1073741825 + s.n := by omega
  clear hk0
  have HN := hide' (s.start_done after next k0 hP HK.out hnext)
  go_enter Try.func24, Try.ntmps24
  go_upto_region 2 with fail
  go_cut [6] (fun i wc => i = .int .i64 k0 ∧ Below w.heap.size w wc)
  case first =>
    by_cases hAB : (next : Int) ≤ after + 1
    all_goals
      go_wp2
      go_meet
      case rel => exact ⟨by have := HK.out; go_num, Below.refl _ _⟩
  case rest =>
    obtain ⟨rfl, hbc⟩ := hcut
    clear f0 f4
    go_upto_block 0 with fail
    go_cut [6] (fun i wc => (∃ k : Nat, i = .int .i64 k) ∧ Below w.heap.size w wc ∧ Hid (s.noneTo after s.n))
    case first =>
      go_wp2
      go_loopw [6] (fun i wr => ∃ k : Nat, k0 ≤ k ∧ (k ≤ s.n ∨ k = k0) ∧ i = .int .i64 k ∧ Below w.heap.size w wr ∧ Hid (s.noneTo after k)) (fun i _ => s.n - (intOf i).toNat)
      case atStart => exact ⟨k0, Nat.le_refl _, .inr rfl, rfl, hbc, HN⟩
      case round =>
        obtain ⟨k, hk1, hk2, rfl, hb, HNk⟩ := hrel
        have hSr := hS.below hb
        by_cases hlt : k < s.n
        · have g0 := hSr.f0
          have g5 := hSr.f5
          have hl : (k : Int) < (s.n : Int) := by omega
          have cD : wr.cell? ⟨bd, k * 5, none⟩ = some (.int .i64 (s.D k)) := (hSr.d.cell (by omega)).trans (by rw [attV_call])
          by_cases hD : s.D k ≤ s.bd
          · have g2 := hSr.f2
            have g6 := hSr.f6
            have cF : wr.cell? ⟨bd, k * 5 + 3, none⟩ = some (.int .i64 (s.DF k)) := (hSr.d.cell (by omega)).trans (by rw [attV_from])
            obtain ⟨xp, hxp, cP⟩ := hSr.p k (by omega)
            have hl2 : (k : Int) < (lp : Int) := by omega
            cases hPk : s.P k
            · have cP' : wr.cell? (xp.add k) = some (.bool false) := by simpa [hPk] using cP
              by_cases hF : s.DF k = s.tx
              · have hF' : (s.DF k == s.tx) = true := by simpa using hF
                have HE := hide' (show s.elig k = true by rw [s.elig_done k hlt]; simp [Att.doneOk, hPk, hF, hD])
                subst hxp
                clear hPk hF cP hSr hS
                go_wp2
                go_quiet (fail)
                go_wp2
                go_quiet (fail)
                go_wp2
                go_ret
                exact ⟨Gives.mk (.inr ⟨k, rfl, by omega, by have := HK.out; omega, HE.out, HNk.out⟩), by repeat (first | exact hb | refine below_drewN ?_ _)⟩
              · have hF' : (s.DF k == s.tx) = false := by simpa using hF
                have HE := hide' (show s.elig k = false by rw [s.elig_done k hlt]; simp [Att.doneOk, hPk, hF])
                subst hxp
                clear hPk hF cP hSr hS
                go_wp2
                go_quiet (fail)
                go_wp2
                go_quiet (fail)
                go_wp2
                go_roundw
                case rel => exact ⟨k + 1, by omega, .inl (by omega), by go_num, by repeat (first | exact hb | refine below_drewN ?_ _), s.noneTo_succ after k HNk.out fun _ => HE.out⟩
                case measure => simp [intOf]; omega
            · have cP' : wr.cell? (xp.add k) = some (.bool true) := by simpa [hPk] using cP
              have HE := hide' (show s.elig k = false by rw [s.elig_done k hlt]; simp [Att.doneOk, hPk])
              subst hxp
              clear hPk cP hSr hS
              go_wp2
              go_quiet (fail)
              go_wp2
              go_quiet (fail)
              go_wp2
              go_roundw
              case rel => exact ⟨k + 1, by omega, .inl (by omega), by go_num, by repeat (first | exact hb | refine below_drewN ?_ _), s.noneTo_succ after k HNk.out fun _ => HE.out⟩
              case measure => simp [intOf]; omega
          · clear hSr hS
            go_wp2
            go_quiet (fail)
            go_wp2
            go_meet
            case rel => exact ⟨⟨k, rfl⟩, below_drewN hb _, s.done_rest after k hA HNk.out (.inr (by omega))⟩
        · have hd : decide ((k : Int) < (s.n : Int)) = false := by simp; omega
          go_wp2
          go_quiet (fail)
          go_wp2
          go_meet
          case rel => exact ⟨⟨k, rfl⟩, below_drewN hb _, s.done_rest after k hA HNk.out (.inl (by omega))⟩
    case rest =>
      obtain ⟨⟨k1, rfl⟩, hb1, HD⟩ := hcut
      obtain ⟨j0, hj0⟩ : ∃ j0 : Nat, (j0 : Int) = max (after + 1 - s.n) 0 := ⟨(max (after + 1 - s.n) 0).toNat, by omega⟩
      have HJ := hide' hj0
      have hj0le : j0 ≤ 1073741825 := by omega
      have HM := hide' (s.start_pend after j0 HD.out hj0)
      clear hj0
      go_upto_region 7 with fail
      go_cut [7] (fun i wc => i = .int .i64 j0 ∧ Below w.heap.size w wc)
      case first =>
        by_cases hJ : after + 1 - (s.n : Int) < 0
        all_goals
          go_wp2
          go_meet
          case rel => exact ⟨by have := HJ.out; go_num, hb1⟩
      case rest =>
      obtain ⟨rfl, hb2⟩ := hcut
      go_wp2
      go_loopw [7] (fun i wr => ∃ j : Nat, j0 ≤ j ∧ (j ≤ s.q ∨ j = j0) ∧ i = .int .i64 j ∧ Below w.heap.size w wr ∧ Hid (s.noneTo after (s.n + j))) (fun i _ => s.q - (intOf i).toNat)
      case atStart => exact ⟨j0, Nat.le_refl _, .inr rfl, rfl, hb2, HM⟩
      case round =>
        obtain ⟨j, hj1, hj2, rfl, hb, HNj⟩ := hrel
        have hSr := hS.below hb
        by_cases hlt : j < s.q
        · have g0 := hSr.f1
          have g5 := hSr.f5
          have hl : (j : Int) < (s.q : Int) := by omega
          have cD : wr.cell? ⟨be, j * 5, none⟩ = some (.int .i64 (s.E j)) := (hSr.e.cell (by omega)).trans (by rw [attV_call])
          by_cases hD : s.E j ≤ s.bd
          · have g2 := hSr.f3
            have g6 := hSr.f6
            have cF : wr.cell? ⟨be, j * 5 + 3, none⟩ = some (.int .i64 (s.EF j)) := (hSr.e.cell (by omega)).trans (by rw [attV_from])
            obtain ⟨xp, hxp, cP⟩ := hSr.u j (by omega)
            have hl2 : (j : Int) < (lu : Int) := by omega
            cases hPk : s.U j
            · have cP' : wr.cell? (xp.add j) = some (.bool false) := by simpa [hPk] using cP
              by_cases hF : s.EF j = s.tx
              · have hF' : (s.EF j == s.tx) = true := by simpa using hF
                have HE := hide' (show s.elig (s.n + j) = true by rw [s.elig_pend j hlt]; simp [Att.pendOk, hPk, hF, hD])
                subst hxp
                clear hPk hF cP hSr hS
                go_wp2
                go_quiet (fail)
                go_wp2
                go_quiet (fail)
                go_wp2
                go_ret
                exact ⟨Gives.mk (.inr ⟨s.n + j, by omega, by omega, by have := HJ.out; omega, HE.out, HNj.out⟩), by repeat (first | exact hb | refine below_drewN ?_ _)⟩
              · have hF' : (s.EF j == s.tx) = false := by simpa using hF
                have HE := hide' (show s.elig (s.n + j) = false by rw [s.elig_pend j hlt]; simp [Att.pendOk, hPk, hF])
                subst hxp
                clear hPk hF cP hSr hS
                go_wp2
                go_quiet (fail)
                go_wp2
                go_quiet (fail)
                go_wp2
                go_roundw
                case rel => exact ⟨j + 1, by omega, .inl (by omega), by go_num, by repeat (first | exact hb | refine below_drewN ?_ _), s.noneTo_succ after (s.n + j) HNj.out fun _ => HE.out⟩
                case measure => simp [intOf]; omega
            · have cP' : wr.cell? (xp.add j) = some (.bool true) := by simpa [hPk] using cP
              have HE := hide' (show s.elig (s.n + j) = false by rw [s.elig_pend j hlt]; simp [Att.pendOk, hPk])
              subst hxp
              clear hPk cP hSr hS
              go_wp2
              go_quiet (fail)
              go_wp2
              go_quiet (fail)
              go_wp2
              go_roundw
              case rel => exact ⟨j + 1, by omega, .inl (by omega), by go_num, by repeat (first | exact hb | refine below_drewN ?_ _), s.noneTo_succ after (s.n + j) HNj.out fun _ => HE.out⟩
              case measure => simp [intOf]; omega
          · clear hSr hS
            go_wp2
            go_quiet (fail)
            go_wp2
            go_ret
            exact ⟨Gives.mk (.inl ⟨rfl, s.pend_rest after j hB HNj.out (.inr (by omega))⟩), below_drewN hb _⟩
        · have hd : decide ((j : Int) < (s.q : Int)) = false := by simp; omega
          have g1 := hSr.f1
          clear hSr hS
          go_wp2
          go_quiet (fail)
          go_wp2
          go_ret
          exact ⟨Gives.mk (.inl ⟨rfl, s.pend_rest after j hB HNj.out (.inl (by omega))⟩), below_drewN hb _⟩
end Go.Proofs.Qxb6602786a
