import Derived.Test.Qxb6603582aPair
namespace Go.Proofs.Qxb6603582a
open Go.ChangeShapes Go.WideShapes Go.ChangeAt Go.RowKit Go.Deep
set_option linter.unusedVariables false

set_option maxRecDepth 100000 in
set_option maxHeartbeats 2000000 in
theorem arbitrate_core (bo bh bt bn ba : Nat) (pf : Nat → Nat) (n : Nat) (E : Nat → Int) (d : Int) (τ bp b f : Nat) (w : World) (hb : lead E d (E τ) τ = b) (hf : lead E d (E (b - 1)) b = f) (hn : n ≤ 1048576) (hτ : τ < n) (hd : 0 ≤ d) (hE : ∀ i, i < n → I64 (E i)) (hA : Asc n E)
    (hL : ∀ wr, Below bp w wr → Laid wr bo bh bt bn ba pf n E d) (hv : w.heap[bp]? = some (.cells #[.slice none 0 0] 27 (0, 0))) :
    Calls Try.prog 12 #[.pointer (some ⟨bo, 0, none⟩), .int .i64 ((τ : Int) + 1), .func (.func 13) #[] #[.pointer (some ⟨bp, 0, none⟩)]] w fun e w' => e = .returned (.tuple #[]) ∧ ∃ pv, w'.heap[bp]? = some (.cells #[pv] 27 (0, 0)) ∧ w'.ownsRow (bp + 1) 30 2 pv (b - f) (pairsV f (b - f) (τ + 1)) ∧ Below bp w w' := by
  have L0 := hL w (Below.refl _ _)
  have o4 := L0.o4
  have pl := L0.pl τ hτ
  have o0 := L0.o0
  have h0 := L0.h0
  have tx := L0.tx τ hτ
  have en := L0.en τ hτ
  have HE := hide' hE
  have HL := hide' hL
  have HB := hide' (ending_before bo bh bt bn ba pf n E d (E τ) τ w.drew hn (by omega) hd hE (hE τ hτ) hA (hL _ (Below.refl _ _).drew))
  rw [hb] at HB
  have hle : b ≤ τ := by have := lead_le E d (E τ) τ; omega
  have hfle : f ≤ b := by have := lead_le E d (E (b - 1)) b; omega
  have hflt : 0 < b → f < b := fun h => by
    have h1 := lead_at E d (E (b - 1)) b
    by_cases e : f = b
    · have := lead_in E d (E (b - 1)) b (b - 1) (by omega)
      rw [apartB_iff] at this
      omega
    · omega
  have HF := hide' hf
  clear hb hf
  have l1 : (0 : Int) ≤ (τ : Int) + 1 := by omega
  have l2 : (τ : Int) + 1 < ((n + 1 : Nat) : Int) := by omega
  have l3 : (τ : Int) < (n : Int) := by omega
  have l4 : (0 : Int) ≤ (τ : Int) := by omega
  have x1 : IntKind.i64.wrap (τ : Int) = (τ : Int) := by rw [IntKind.wrap_i64]; omega
  have x2 : IntKind.i64.wrap ((τ : Int) + 1 - 1) = (τ : Int) := by rw [IntKind.wrap_i64]; omega
  clear hE hL L0
  go_enter Try.func12, Try.ntmps12
  go_wp2
  go_region_held3 (fun w' => w'.cell? ⟨bo, 4, none⟩ = some (.slice (some ⟨ba, 0, none⟩) (n + 1) (n + 1)) ∧ w'.cell? ⟨ba, τ + 1, none⟩ = some (.int .i64 τ) ∧ w'.cell? ⟨bo, 0, none⟩ = some (.pointer (some ⟨bh, 0, none⟩)) ∧ w'.cell? ⟨bh, 0, none⟩ = some (.slice (some ⟨bt, 0, none⟩) n n) ∧ w'.cell? ⟨bt, τ * 7 + 5, none⟩ = some (.pointer (some ⟨pf τ, 0, none⟩)) ∧ w'.cell? ⟨pf τ, 0, none⟩ = some (.int .i64 (E τ)))
    (first | go_keep | exact ⟨later hbq o4, later hbq pl, later hbq o0, later hbq h0, later hbq tx, later hbq en⟩)
    ((go_at_call 14; refine HB.out.mono ?_; rintro e w1 ⟨rfl, hbq⟩))
  have hB1 : Below bp w w1 := ((Below.refl bp w).drew).trans (hbq.mono (by have := lt_of_block hv; simp; omega))
  have hv1 : w1.heap[bp]? = some (.cells #[.slice none 0 0] 27 (0, 0)) := by rw [hbq.block bp (by have := lt_of_block hv; simpa using this)]; exact hv
  have HL1 := hide' (fun wr (h : Below w1.heap.size w1 wr) => HL.out wr (hB1.trans (h.mono (by have := lt_of_block hv1; omega))))
  clear hbq HB o4 pl o0 h0 tx en x1 x2 l1 l2 l3 hv
  rcases Nat.eq_zero_or_pos b with rfl | hpos
  · have e0 : f = 0 := by omega
    subst e0
    go_wp2
    go_returns
    exact ⟨rfl, _, hv1, World.ownsRow_nil _ _ _ _, hB1⟩
  · have hlt := hflt hpos
    obtain ⟨β, rfl⟩ : ∃ β, b = β + 1 := ⟨b - 1, by omega⟩
    have hf' : lead E d (E β) (β + 1) = f := HF.out
    have o1 := (HL1.out w1 (Below.refl _ _)).o1
    have HX := hide' (fun wr (h : Below w1.heap.size w1 wr) => end_any bo bh bt bn ba pf n E d β wr hn (by omega) (HL1.out wr h))
    have HY := hide' (fun wr (h : Below w1.heap.size w1 wr) => by have q := ending_before bo bh bt bn ba pf n E d (E β) (β + 1) wr hn (by omega) hd HE.out (HE.out β (by omega)) hA (HL1.out wr h); rw [hf', show ((β + 1 : Nat) : Int) = (β : Int) + 1 from by omega] at q; exact q)
    have x2 : IntKind.i64.wrap ((β : Int) + 1 - 1) = (β : Int) := by rw [IntKind.wrap_i64]; omega
    have x3 : IntKind.i64.wrap (β : Int) = (β : Int) := by rw [IntKind.wrap_i64]; omega
    have y1 : (f : Int) ≤ (β : Int) + 1 := by omega
    have y2 : (β : Int) + 1 ≤ (n : Int) := by omega
    have y3 : (0 : Int) ≤ (f : Int) := by omega
    have y4 : (0 : Int) ≤ (β : Int) := by omega
    have hbe : ((β : Int) + 1 == 0) = false := by simp; omega
    clear hf' hflt HF
    go_wp2
    go_region_held3 (fun w' => w'.cell? ⟨bo, 1, none⟩ = some (.slice (some ⟨bn, 0, none⟩) n n))
      (first | go_keep | exact later hbz (by simpa using o1))
      ((first | (go_at_call 15; refine (HX.out _ (Below.refl _ _).drew).mono ?_; rintro e w2 ⟨rfl, m2, rfl⟩) | (go_at_call 14; refine (HY.out _ (by exact below_drewN (Below.refl _ _) _)).mono ?_; rintro e w3 ⟨rfl, hbz⟩)))
    have hB3 : Below w1.heap.size w1 w3 := (below_drewN (Below.refl _ _) _).trans (by simpa using hbz)
    have hlt1 := lt_of_block hv1
    have hv3 : w3.heap[bp]? = some (.cells #[.slice none 0 0] 27 (0, 0)) := by rw [hB3.block bp hlt1]; exact hv1
    have hBB : Below bp w w3 := hB1.trans (hB3.mono (by omega))
    have ND := hide' (fun wr (h : Below bp w wr) i (hi : i < n) => (HL.out wr h).nd i hi)
    clear hbz HX HY HL1 o1 HE x2 x3 hA hv1 hB1 hB3 HL
    go_wp2
    go_loopw [49] (fun i wr => ∃ j : Nat, j ≤ β + 1 - f ∧ i = .int .i64 j ∧ Below bp w wr ∧ Hid (∃ pv, wr.heap[bp]? = some (.cells #[pv] 27 (0, 0)) ∧ wr.ownsRow (bp + 1) 30 2 pv j (pairsV f j (τ + 1)))) (fun i _ => β + 1 - f - (intOf i).toNat)
    case atStart => exact ⟨0, Nat.zero_le _, rfl, hBB, _, hv3, World.ownsRow_nil _ _ _ _⟩
    case round =>
      obtain ⟨j, hj, rfl, hb, HO⟩ := hrel
      obtain ⟨pv, hpv, hown⟩ := HO.out
      by_cases hlt2 : j < β + 1 - f
      · have nd := ND.out wr hb (f + j) (by omega)
        have HP := hide' (pair_any bp pv j _ (((f + j : Nat) : Int) + 1) ((τ : Int) + 1) wr (by omega) hpv hown)
        clear hpv hown HO hv3 hBB ND
        go_wp2_with fail
        refine HP.out.mono ?_
        rintro e w5 ⟨rfl, pv', hpv', hown', hb5⟩
        go_wp2
        go_roundw
        case rel => exact ⟨j + 1, by omega, by go_num, hb.trans hb5, pv', hpv', by rw [pairsV_succ]; exact hown'⟩
        case measure => simp [intOf]; omega
      · obtain rfl : j = β + 1 - f := by omega
        clear hv3 hBB ND HO
        go_wp2
        go_returns
        exact ⟨rfl, pv, hpv, hown, hb⟩

theorem arbitrate_any (bo bh bt bn ba : Nat) (pf : Nat → Nat) (n : Nat) (E : Nat → Int) (d : Int) (τ bp : Nat) (w : World) (hn : n ≤ 1048576) (hτ : τ < n) (hd : 0 ≤ d) (hE : ∀ i, i < n → I64 (E i)) (hA : Asc n E)
    (hL : ∀ wr, Below bp w wr → Laid wr bo bh bt bn ba pf n E d) (hv : w.heap[bp]? = some (.cells #[.slice none 0 0] 27 (0, 0))) :
    Calls Try.prog 12 #[.pointer (some ⟨bo, 0, none⟩), .int .i64 ((τ : Int) + 1), .func (.func 13) #[] #[.pointer (some ⟨bp, 0, none⟩)]] w fun e w' => e = .returned (.tuple #[]) ∧ ∃ pv, w'.heap[bp]? = some (.cells #[pv] 27 (0, 0)) ∧ w'.ownsRow (bp + 1) 30 2 pv (before E d (τ + 1) - first E d (τ + 1)) (pairsV (first E d (τ + 1)) (before E d (τ + 1) - first E d (τ + 1)) (τ + 1)) ∧ Below bp w w' :=
  arbitrate_core bo bh bt bn ba pf n E d τ bp (before E d (τ + 1)) (first E d (τ + 1)) w rfl rfl hn hτ hd hE hA hL hv
end Go.Proofs.Qxb6603582a
