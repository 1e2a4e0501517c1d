import Derived.Test.Qxb6602786aFlagsMore
namespace Go.Proofs.Qxb6602786a
open Go.ChangeShapes Go.WideShapes Go.ChangeAt Go.RowKit Go.Deep

theorem zz20 (ak af ac : Option Addr) (lk ck lf cf lc cc : Nat) (en : Int) (w : World) (mk : lk ≤ maxLen) (mf : lf ≤ maxLen) (mc : lc ≤ maxLen) :
    Calls Try.prog 20 #[.slice ak lk ck, .slice af lf cf, .slice ac lc cc, .int .i64 en] w fun e w' => ∃ r : Bool, e = .returned (.bool r) ∧ w = w' ∧ (r = true → lk ≤ 1048576 ∧ lf ≤ 1048576 ∧ lc ≤ 1048576) := by
  unfold maxLen at mk mf mc
  go_enter Try.func20, Try.ntmps20
  go_wp2
  all_goals go_ret
  all_goals first | exact ⟨false, rfl, rfl, fun h => by cases h⟩ | exact ⟨true, rfl, rfl, fun _ => ⟨by omega, by omega, by omega⟩⟩

set_option maxHeartbeats 2000000 in
theorem law6 (ak af ac : Option Addr) (lk ck lf cf lc cc : Nat) (K : Nat → Int) (F : Nat → Bool) (C : Nat → Int) (en : Int) (w : World) (mk : lk ≤ maxLen) (mf : lf ≤ maxLen) (mc : lc ≤ maxLen)
    (hK : Els w ak lk (fun i => .int .u8 (K i))) (hF : Els w af lf (fun i => .bool (F i))) (hC : Els w ac lc (fun i => .int .i64 (C i))) :
    Calls Try.prog 6 #[.slice ak lk ck, .slice af lf cf, .slice ac lc cc, .int .i64 en] w fun e w' => e = .returned (.bool true) ∧ Below w.heap.size w w' := by
  go_enter Try.func6, Try.ntmps6
  go_wp2_with fail
  refine (zz20 ak af ac lk ck lf cf lc cc en w mk mf mc).mono ?_
  rintro e w0 ⟨r, rfl, rfl, hr⟩
  cases r with
  | false => go_wp2; go_ret; exact ⟨rfl, Below.refl _ _⟩
  | true =>
  obtain ⟨bk, bf, bc⟩ := hr rfl
  clear hr
  by_cases h1 : 65536 < lk
  · go_wp2; go_ret; exact ⟨rfl, Below.refl _ _⟩
  by_cases h2 : 65536 < lf
  · go_wp2; go_ret; exact ⟨rfl, Below.refl _ _⟩
  by_cases h3 : 65536 < lc
  · go_wp2; go_ret; exact ⟨rfl, Below.refl _ _⟩
  go_wp2_with fail
  refine (upto_any ac lc cc C en w bc hC).mono ?_
  rintro e w0 ⟨rfl, rfl⟩
  obtain ⟨m, hm⟩ : ∃ m, m = pfx C en 0 lc := ⟨_, rfl⟩
  have hmle : m ≤ lc := by have := pfx_le C en 0 lc; omega
  rw [← hm]
  have HM : Hid (m = pfx C en 0 lc) := hm
  clear hm
  by_cases h4 : lf < m
  · go_wp2; go_ret; exact ⟨rfl, Below.refl _ _⟩
  go_wp2_with fail
  refine (cloneByte_any ak lk ck K w bk hK).mono ?_
  rintro e w1 ⟨a1, rfl, b1, k1⟩
  have n1 := b1.size
  go_wp2_with fail
  refine (cloneBool_any af lf cf F w1 bf (hF.below b1)).mono ?_
  rintro e w2 ⟨a2, rfl, b2, k2⟩
  have n2 := b2.size
  go_wp2_with fail
  refine (clone64_any ac lc cc C w2 bc ((hC.below b1).below b2)).mono ?_
  rintro e w3 ⟨a3, rfl, b3, k3⟩
  have n3 := b3.size
  have e1 : Els w3 a1 lk (fun i => .int .u8 (K i)) := (k1.els.below b2).below b3
  have e2 : Els w3 a2 lf (fun i => .bool (F i)) := k2.els.below b3
  have e3 : Els w3 a3 lc (fun i => .int .i64 (C i)) := k3.els
  have B3 : Below w.heap.size w w3 := belowThen (belowThen b1 b2) b3
  clear k1 k2 k3 hK hF hC b1 b2 b3
  go_wp2_with fail
  refine (cloneByte_any a1 lk lk K w3 bk e1).mono ?_
  rintro e w4 ⟨a4, rfl, b4, k4⟩
  have n4 := b4.size
  have o4 := k4.owns mk
  have B4 : Below w.heap.size w w4 := belowThen B3 b4
  go_wp2_with fail
  refine (zz_append (.slice a4 lk lk) lk _ w3.heap.size a2 a3 lc lc lf lf F C en w4 bc bk (by rw [← HM.out]; omega) n4 o4 (fun wr hb => e2.below (b4.trans hb)) (e3.below b4)).mono ?_
  rintro e w5 ⟨v5, rfl, b5, o5⟩
  rw [← HM.out] at o5
  have n5 := b5.size
  obtain ⟨g, cap, hv, hg, hgc, hcell⟩ := owns_shape o5 (by omega)
  subst hv
  have B5 : Below w3.heap.size w3 w5 := b4.trans b5
  have E1 := e1.below B5
  have E2 := e2.below B5
  have BB : Below w.heap.size w w5 := belowThen B3 B5
  have hgk : ∀ j, j < lk → w5.cell? ⟨g, j, none⟩ = some (.int .u8 (K j)) := fun j hj => by
    rw [hcell j (by omega), List.getElem?_append_left (by simpa using hj)]
    simp [hj]
  have hgb : ∀ j, j < m / 8 + 1 → w5.cell? ⟨g, lk + j, none⟩ = some (.int .u8 (byteOf F m j)) := fun j hj => by
    rw [hcell (lk + j) (by omega), List.getElem?_append_right (by simp)]
    simp [bytesV, bytesOf, hj]
  clear hcell o5 o4 k4
  go_wp2_with fail
  refine (zz_append (.slice none 0 0) 0 [] w5.heap.size a2 a3 lc lc lf lf F C en w5 bc (by omega) (by rw [← HM.out]; omega) (Nat.le_refl _) (World.ownsRow_nil _ _ _ _) (fun wr hb => E2.below hb) ((e3.below B5))).mono ?_
  rintro e w6 ⟨v6, rfl, b6, o6⟩
  rw [← HM.out] at o6
  have n6 := b6.size
  obtain ⟨g6, cap6, hv6, hg6, hgc6, hcell6⟩ := owns_shape o6 (by omega)
  subst hv6
  have hgk6 : ∀ j, j < lk → w6.cell? ⟨g, j, none⟩ = some (.int .u8 (K j)) := fun j hj => later b6 (hgk j hj)
  have hgb6 : ∀ j, j < m / 8 + 1 → w6.cell? ⟨g, lk + j, none⟩ = some (.int .u8 (byteOf F m j)) := fun j hj => later b6 (hgb j hj)
  have hal : ∀ j, j < m / 8 + 1 → w6.cell? ⟨g6, j, none⟩ = some (.int .u8 (byteOf F m j)) := fun j hj => by
    rw [hcell6 j (by omega)]
    simp [bytesV, bytesOf, hj]
  have E6 := E1.below b6
  have B6 : Below w.heap.size w w6 := belowThen BB b6
  clear hcell6 o6 b4 b5 e1 e2 e3 B3 B4 B5 E1 E2 BB b6 hgk hgb
  have HGK := (show Hid (∀ j, j < lk → w6.cell? ⟨g, j, none⟩ = some (.int .u8 (K j))) from hgk6)
  have HGB := (show Hid (∀ j, j < m / 8 + 1 → w6.cell? ⟨g, lk + j, none⟩ = some (.int .u8 (byteOf F m j))) from hgb6)
  have HAL := (show Hid (∀ j, j < m / 8 + 1 → w6.cell? ⟨g6, j, none⟩ = some (.int .u8 (byteOf F m j))) from hal)
  clear hgk6 hgb6 hal
  go_wp2
  go_loopw [11] (fun i wr => ∃ k : Nat, k ≤ lk ∧ i = .int .i64 k ∧ Below w6.heap.size w6 wr) (fun i _ => lk - (intOf i).toNat)
  case atStart => exact ⟨0, Nat.zero_le _, rfl, Below.refl _ _⟩
  case round =>
    obtain ⟨k, hk, rfl, hb⟩ := hrel
    by_cases hlt : k < lk
    · obtain ⟨x1, hx1, c1⟩ := E6 k hlt
      subst hx1
      have c1' := later hb c1
      have c2' := later hb (HGK.out k hlt)
      have hl1 : (k : Int) < (lk : Int) := by omega
      have hl2 : (k : Int) < ((lk + (m / 8 + 1) : Nat) : Int) := by omega
      clear c1
      go_wp2
      go_quiet (fail)
      go_wp2
      go_roundw
      case rel => exact ⟨k + 1, by omega, by go_num, below_drewN hb _⟩
      case measure => simp [intOf]; omega
    · go_wp2
      obtain ⟨wo, rfl⟩ : ∃ wo : World, wo = wr := ⟨_, rfl⟩
      go_loopw [12] (fun i wr => ∃ k : Nat, k ≤ m / 8 + 1 ∧ i = .int .i64 k ∧ Below w6.heap.size w6 wr) (fun i _ => m / 8 + 1 - (intOf i).toNat)
      case atStart => exact ⟨0, Nat.zero_le _, rfl, hb⟩
      case round =>
        obtain ⟨p, hp, rfl, hb2⟩ := hrel
        by_cases hlp : p < m / 8 + 1
        · have c2' := later hb2 (HGB.out p hlp)
          have c3' := later hb2 (HAL.out p hlp)
          have hl1 : (p : Int) < ((m / 8 + 1 : Nat) : Int) := by omega
          have hl2 : (lk : Int) + (p : Int) < ((lk + (m / 8 + 1) : Nat) : Int) := by omega
          go_wp2
          go_quiet (fail)
          go_wp2
          go_roundw
          case rel => exact ⟨p + 1, by omega, by go_num, below_drewN hb2 _⟩
          case measure => simp [intOf]; omega
        · go_wp2
          go_ret
          exact ⟨rfl, belowThen B6 hb2⟩
end Go.Proofs.Qxb6602786a
