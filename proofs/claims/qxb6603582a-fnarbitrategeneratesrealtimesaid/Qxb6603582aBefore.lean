import Derived.Test.Qxb6603582aApart
namespace Go.Proofs.Qxb6603582a
open Go.ChangeShapes Go.WideShapes Go.ChangeAt Go.RowKit Go.Deep
set_option linter.unusedVariables false

set_option maxHeartbeats 400000 in
theorem closure_any (bo bh bt bn ba : Nat) (pf : Nat → Nat) (n : Nat) (E : Nat → Int) (d x : Int) (p1 p2 : Addr) (i : Nat) (w : World) (hn : n ≤ 1048576) (hi : i < n) (hd : 0 ≤ d) (hE : ∀ i, i < n → I64 (E i)) (hx : I64 x) (hL : Laid w bo bh bt bn ba pf n E d)
    (c1 : w.cell? p1 = some (.pointer (some ⟨bo, 0, none⟩))) (c2 : w.cell? p2 = some (.int .i64 x)) :
    Calls Try.prog 17 #[.int .i64 i, .pointer (some p1), .pointer (some p2)] w fun e w' => e = .returned (.bool (!apartB (E i) x d)) ∧ ∃ m, w' = w.drewN m := by
  have o0 := hL.o0
  have h5 := hL.h5
  have HE := hide' (hE i hi)
  have HX := hide' hx
  clear hE hx
  go_enter Try.func17, Try.ntmps17
  go_wp2
  go_quiet ((first | (go_at_call 15; exact Calls.quiet_of (end_any bo bh bt bn ba pf n E d i _ hn hi (hL.below (drewBelow _ _)))) | (go_at_call 18; exact Calls.quiet_of_same (apart_any _ _ _ _ HE.out HX.out hd))))
  go_wp2
  go_ret
  exact ⟨rfl, _, rfl⟩

set_option maxHeartbeats 400000 in
theorem search_any (n c : Nat) (A : Nat → Bool) (p1 p2 : Addr) (w : World) (hn : n ≤ 1048576) (hc : c ≤ n) (h1 : ∀ i, i < c → A i = true) (h2 : ∀ i, c ≤ i → i < n → A i = false)
    (hf : ∀ i wr, i < n → Below w.heap.size w wr → Calls Try.prog 17 #[.int .i64 i, .pointer (some p1), .pointer (some p2)] wr fun e w' => e = .returned (.bool (!A i)) ∧ ∃ m, w' = wr.drewN m) :
    Calls Try.prog 16 #[.int .i64 n, .func (.func 17) #[] #[.pointer (some p1), .pointer (some p2)]] w fun e w' => e = .returned (.int .i64 c) ∧ Below w.heap.size w w' := by
  have H1 := hide' h1
  have H2 := hide' h2
  have HF := hide' hf
  clear h1 h2 hf
  go_enter Try.func16, Try.ntmps16
  go_wp2
  go_loopw [5, 6] (fun a b wr => ∃ i j : Nat, i ≤ c ∧ c ≤ j ∧ j ≤ n ∧ a = .int .i64 i ∧ b = .int .i64 j ∧ Below w.heap.size w wr) (fun a b _ => (intOf b).toNat - (intOf a).toNat)
  case atStart => exact ⟨0, n, Nat.zero_le _, hc, Nat.le_refl _, rfl, rfl, Below.refl _ _⟩
  case round =>
    obtain ⟨i, j, hi, hj, hjn, rfl, rfl, hb⟩ := hrel
    by_cases hlt : i < j
    · obtain ⟨h, hh⟩ : ∃ h, h = (i + j) / 2 := ⟨_, rfl⟩
      have hhi : i ≤ h := by omega
      have hhj : h < j := by omega
      have e : ((i : Int) + (j : Int)) / 2 = (h : Int) := by omega
      have EE := hide' e
      clear hh e
      go_wp2_with fail
      rw [EE.out]
      cases hA : A h
      · have hch : c ≤ h := by
          by_cases q : h < c
          · have := H1.out h q; rw [hA] at this; cases this
          · omega
        refine (HF.out h wr (by omega) hb).mono ?_
        rintro e w' ⟨rfl, m, rfl⟩
        rw [hA]
        go_wp2
        go_roundw
        case rel => exact ⟨i, h, hi, hch, by omega, rfl, rfl, below_drewN hb _⟩
        case measure => simp [intOf]; omega
      · have hch : h < c := by
          by_cases q : h < c
          · exact q
          · have := H2.out h (by omega) (by omega); rw [hA] at this; cases this
        refine (HF.out h wr (by omega) hb).mono ?_
        rintro e w' ⟨rfl, m, rfl⟩
        rw [hA]
        go_wp2
        go_roundw
        case rel => exact ⟨h + 1, j, by omega, hj, hjn, by go_num, rfl, below_drewN hb _⟩
        case measure => simp [intOf]; omega
    · obtain rfl : i = c := by omega
      go_wp2
      go_ret
      exact ⟨rfl, hb⟩

set_option maxHeartbeats 400000 in
theorem ending_before (bo bh bt bn ba : Nat) (pf : Nat → Nat) (n : Nat) (E : Nat → Int) (d x : Int) (m : Nat) (w : World) (hn : n ≤ 1048576) (hm : m ≤ n) (hd : 0 ≤ d) (hE : ∀ i, i < n → I64 (E i)) (hx : I64 x) (hA : Asc n E) (hL : Laid w bo bh bt bn ba pf n E d) :
    Calls Try.prog 14 #[.pointer (some ⟨bo, 0, none⟩), .int .i64 m, .int .i64 x] w fun e w' => e = .returned (.int .i64 (lead E d x m : Nat)) ∧ Below w.heap.size w w' := by
  have hb1 : Below w.heap.size w ((w.alloc (.cells #[.pointer (some ⟨bo, 0, none⟩)] 50)).alloc (.cells #[.int .i64 x] 2)) := ((Below.refl _ _).alloc (Nat.le_refl _) _).alloc (by simp) _
  have k1 : ((w.alloc (.cells #[.pointer (some ⟨bo, 0, none⟩)] 50)).alloc (.cells #[.int .i64 x] 2)).cell? ⟨w.heap.size, 0, none⟩ = some (.pointer (some ⟨bo, 0, none⟩)) := by
    rw [World.cell?_alloc_lt _ _ _ (by simp)]
    simp only [World.cell?, blk_alloc_new]; rfl
  have k2 : ((w.alloc (.cells #[.pointer (some ⟨bo, 0, none⟩)] 50)).alloc (.cells #[.int .i64 x] 2)).cell? ⟨w.heap.size + 1, 0, none⟩ = some (.int .i64 x) := by
    have e : w.heap.size + 1 = (w.alloc (.cells #[.pointer (some ⟨bo, 0, none⟩)] 50)).heap.size := by simp
    rw [e]
    simp only [World.cell?, blk_alloc_new]; rfl
  have HS := hide' (search_any m (lead E d x m) (fun i => apartB (E i) x d) ⟨w.heap.size, 0, none⟩ ⟨w.heap.size + 1, 0, none⟩ _ (by omega) (lead_le _ _ _ _) (fun i hi => lead_in _ _ _ _ _ hi) (fun i h1 h2 => lead_out E d x m n i hA hm h1 h2)
    (fun i wr hi hb => closure_any bo bh bt bn ba pf n E d x _ _ i wr hn (by omega) hd hE hx ((hL.below hb1).below hb) (later hb k1) (later hb k2)))
  clear k1 k2 hL hE hx hA
  go_enter Try.func14, Try.ntmps14
  go_wp2_with fail
  refine HS.out.mono ?_
  rintro e w' ⟨rfl, hb⟩
  go_wp2
  go_ret
  exact ⟨rfl, belowThen hb1 hb⟩
end Go.Proofs.Qxb6603582a
