import Derived.Test.Qxb6602786aCand
namespace Go.Proofs.Qxb6602786a
open Go.ChangeShapes Go.WideShapes Go.ChangeAt Go.RowKit Go.Deep
set_option linter.unusedVariables false

theorem search_laid (s : Att) (w : World) (bd be : Nat) (ap au : Option Addr) (lp cp lu cu next : Nat) (S1 S2 : Nat → Bool) (hd : w.rowIs bd 44 (s.n * 5) (attV s.D s.DF S1)) (he : w.rowIs be 44 (s.q * 5) (attV s.E s.EF S2))
    (hp : Els w ap lp (fun i => .bool (s.P i))) (hu : Els w au lu (fun i => .bool (s.U i))) :
    Search s (w.alloc (.cells #[.slice (some ⟨bd, 0, none⟩) s.n s.n, .slice (some ⟨be, 0, none⟩) s.q s.q, .slice ap lp cp, .slice au lu cu, .int .i64 next, .int .i64 s.bd, .int .i64 s.tx, .map none, .slice none 0 0] 48)) w.heap.size bd be ap au lp cp lu cu next S1 S2 := by
  have hb := (Below.refl w.heap.size w).alloc (Nat.le_refl _) (.cells #[.slice (some ⟨bd, 0, none⟩) s.n s.n, .slice (some ⟨be, 0, none⟩) s.q s.q, .slice ap lp cp, .slice au lu cu, .int .i64 next, .int .i64 s.bd, .int .i64 s.tx, .map none, .slice none 0 0] 48)
  have hn := blk_alloc_new w (.cells #[.slice (some ⟨bd, 0, none⟩) s.n s.n, .slice (some ⟨be, 0, none⟩) s.q s.q, .slice ap lp cp, .slice au lu cu, .int .i64 next, .int .i64 s.bd, .int .i64 s.tx, .map none, .slice none 0 0] 48)
  refine ⟨?_, ?_, ?_, ?_, ?_, ?_, ?_, hd.alloc _, he.alloc _, hp.below hb, hu.below hb⟩ <;> simp only [World.cell?, hn] <;> rfl

set_option maxHeartbeats 1000000 in
theorem zz_candidate (s : Att) (a0 a1 a2 a3 a4 a5 : Option Addr) (c0 c1 l2 c2 c3 c4 l5 c5 next : Nat) (after : Int) (w : World)
    (b0 : s.n ≤ 1048576) (b3 : s.q ≤ 1048576) (h2 : s.n ≤ l2) (h5 : s.q ≤ l5) (hlo : -1073741824 ≤ after) (hhi : after ≤ 1073741824) (hnext : next ≤ s.n)
    (hP : ∀ c, c < next → s.P c = true) (hA : Asc s.n s.D) (hB : Asc s.q s.E) (hL : Lies s w a0 a1 a2 a3 a4 a5 l2 l5) :
    Calls Try.prog 13 #[.slice a0 s.n c0, .slice a1 s.n c1, .slice a2 l2 c2, .slice a3 s.q c3, .slice a4 s.q c4, .slice a5 l5 c5, .int .i64 next, .int .i64 s.bd, .int .i64 s.tx, .int .i64 after] w fun e w' => Gives (s.leastTo after (s.n + s.q)) e ∧ Below w.heap.size w w' := by
  have hmk := run_make_att s.n b0
  have hmk2 := run_make_att s.q b3
  go_enter Try.func13, Try.ntmps13
  go_wp2
  go_loopw [22] (fun i wr => ∃ k : Nat, k ≤ s.n ∧ i = .int .i64 k ∧ Below w.heap.size w wr ∧ wr.rowIs w.heap.size 44 (s.n * 5) (attK s.D s.DF (fun _ => false) k)) (fun i _ => s.n - (intOf i).toNat)
  case atStart => exact ⟨0, Nat.zero_le _, rfl, (Below.refl _ _).alloc (Nat.le_refl _) _, att_made _ _ _ _ _⟩
  case round =>
    obtain ⟨k, hk, rfl, hb, hr⟩ := hrel
    by_cases hlt : k < s.n
    · obtain ⟨x0, hx0, d0⟩ := hL.d k hlt
      obtain ⟨x1, hx1, d1⟩ := hL.df k hlt
      have e0 := later hb d0
      have e1 := later hb d1
      obtain ⟨v0, q0⟩ := att_cell hr hlt 0 (by omega)
      obtain ⟨v1, q1⟩ := att_cell hr hlt 1 (by omega)
      obtain ⟨v2, q2⟩ := att_cell hr hlt 2 (by omega)
      obtain ⟨v3, q3⟩ := att_cell hr hlt 3 (by omega)
      obtain ⟨v4, q4⟩ := att_cell hr hlt 4 (by omega)
      rw [Nat.add_zero] at q0
      have hfz := hr.frozen
      have hl : (k : Int) < (s.n : Int) := by omega
      clear hL d0 d1
      subst hx0 hx1
      go_wp2
      go_region
      all_goals go_wp2
      go_roundw
      case rel =>
        refine ⟨k + 1, by omega, by go_num, ?_, ?_⟩
        · go_grown
        · exact (att_step hr _ _ _ rfl rfl rfl).drew
      case measure => simp [intOf]; omega
    · obtain rfl : k = s.n := by omega
      have HR := att_done hr
      obtain ⟨wo, rfl⟩ : ∃ wo : World, wo = wr := ⟨_, rfl⟩
      have hLo := hL.below hb
      clear hL hr
      go_wp2
      go_loopw [24] (fun i wr => ∃ k : Nat, k ≤ s.q ∧ i = .int .i64 k ∧ Below wo.heap.size wo wr ∧ wr.rowIs wo.heap.size 44 (s.q * 5) (attK s.E s.EF (fun _ => true) k)) (fun i _ => s.q - (intOf i).toNat)
      case atStart => exact ⟨0, Nat.zero_le _, rfl, (Below.refl _ _).alloc (Nat.le_refl _) _, att_made _ _ _ _ _⟩
      case round =>
        obtain ⟨j, hj, rfl, hb2, hr2⟩ := hrel
        by_cases hlt : j < s.q
        · obtain ⟨x0, hx0, d0⟩ := hLo.e j hlt
          obtain ⟨x1, hx1, d1⟩ := hLo.ef j hlt
          have e0 := later hb2 d0
          have e1 := later hb2 d1
          obtain ⟨v0, q0⟩ := att_cell hr2 hlt 0 (by omega)
          obtain ⟨v1, q1⟩ := att_cell hr2 hlt 1 (by omega)
          obtain ⟨v2, q2⟩ := att_cell hr2 hlt 2 (by omega)
          obtain ⟨v3, q3⟩ := att_cell hr2 hlt 3 (by omega)
          obtain ⟨v4, q4⟩ := att_cell hr2 hlt 4 (by omega)
          rw [Nat.add_zero] at q0
          have hfz := hr2.frozen
          have hl : (j : Int) < (s.q : Int) := by omega
          clear hLo d0 d1
          subst hx0 hx1
          go_wp2
          go_region
          all_goals go_wp2
          go_roundw
          case rel =>
            refine ⟨j + 1, by omega, by go_num, ?_, ?_⟩
            · go_grown
            · exact (att_step hr2 _ _ _ rfl rfl rfl).drew
          case measure => simp [intOf]; omega
        · obtain rfl : j = s.q := by omega
          have HR2 := att_done hr2
          have HR1 : wr.rowIs w.heap.size 44 (s.n * 5) (attV s.D s.DF fun _ => false) := HR.of_block (hb2.block _ HR.lt)
          have hLr := hLo.below hb2
          clear hLo hr2 HR
          go_wp2_with fail
          have hbA := (Below.refl wr.heap.size wr).alloc (Nat.le_refl _) (.cells #[.slice (some ⟨w.heap.size, 0, none⟩) s.n s.n, .slice (some ⟨wo.heap.size, 0, none⟩) s.q s.q, .slice a2 l2 c2, .slice a5 l5 c5, .int .i64 next, .int .i64 s.bd, .int .i64 s.tx, .map none, .slice none 0 0] 48)
          refine (candidate_any s wr.heap.size w.heap.size wo.heap.size a2 a5 l2 c2 l5 c5 next (fun _ => false) (fun _ => true) after _ b0 b3 h2 h5 hlo hhi hnext hP hA hB (search_laid s wr _ _ a2 a5 l2 c2 l5 c5 next _ _ HR1 HR2 hLr.p hLr.u)).mono ?_
          rintro e w3 ⟨⟨r, rfl, hr⟩, hb3⟩
          go_wp2
          go_ret
          exact ⟨Gives.mk hr, belowThen (belowThen (belowThen hb hb2) hbA) hb3⟩
end Go.Proofs.Qxb6602786a
