import Derived.Test.Qxb6602786aFlagsMore
namespace Go.Proofs.Qxb6602786a
open Go.ChangeShapes Go.WideShapes Go.ChangeAt Go.RowKit Go.Deep

theorem zz21 (ak af ag ac : Option Addr) (lk ck lf cf lg cg lc cc : Nat) (en : Int) (w : World) (mk : lk ≤ maxLen) (mf : lf ≤ maxLen) (mg : lg ≤ maxLen) (mc : lc ≤ maxLen) :
    Calls Try.prog 21 #[.slice ak lk ck, .slice af lf cf, .slice ag lg cg, .slice ac lc cc, .int .i64 en] w fun e w' => ∃ r : Bool, e = .returned (.bool r) ∧ w = w' ∧ (r = true → lk ≤ 1048576 ∧ lf ≤ 1048576 ∧ lg ≤ 1048576 ∧ lc ≤ 1048576) := by
  unfold maxLen at mk mf mg mc
  go_enter Try.func21, Try.ntmps21
  go_wp2
  all_goals go_ret
  all_goals first | exact ⟨false, rfl, rfl, fun h => by cases h⟩ | exact ⟨true, rfl, rfl, fun _ => ⟨by omega, by omega, by omega, by omega⟩⟩

/-- Do the two agree below k? -/
def sameTo (F G : Nat → Bool) : Nat → Bool
  | 0 => true
  | k + 1 => sameTo F G k && (F k == G k)
theorem sameTo_iff (F G : Nat → Bool) (k : Nat) : sameTo F G k = true ↔ ∀ j, j < k → F j = G j := by
  induction k with
  | zero => simp [sameTo]
  | succ k ih =>
    simp only [sameTo, Bool.and_eq_true, ih, beq_iff_eq]
    constructor
    · rintro ⟨h1, h2⟩ j hj
      by_cases e : j = k
      · subst e; exact h2
      · exact h1 j (by omega)
    · intro h
      exact ⟨fun j hj => h j (by omega), h k (by omega)⟩

set_option maxHeartbeats 400000 in
theorem bytes_equal (ga gb n ca cb : Nat) (A B : Nat → Int) (w : World) (hn : n ≤ 4194304) (hA : ∀ j, j < n → w.cell? ⟨ga, j, none⟩ = some (.int .u8 (A j))) (hB : ∀ j, j < n → w.cell? ⟨gb, j, none⟩ = some (.int .u8 (B j))) :
    Calls Try.prog 22 #[.slice (some ⟨ga, 0, none⟩) n ca, .slice (some ⟨gb, 0, none⟩) n cb] w fun e w' => ∃ r : Bool, e = .returned (.bool r) ∧ Below w.heap.size w w' ∧ (r = true ↔ ∀ j, j < n → A j = B j) := by
  have HA : Hid (∀ j, j < n → w.cell? ⟨ga, j, none⟩ = some (.int .u8 (A j))) := hA
  have HB : Hid (∀ j, j < n → w.cell? ⟨gb, j, none⟩ = some (.int .u8 (B j))) := hB
  clear hA hB
  go_enter Try.func22, Try.ntmps22
  go_wp2
  go_loopw [5] (fun i wr => ∃ k : Nat, k ≤ n ∧ i = .int .i64 k ∧ Below w.heap.size w wr ∧ Hid (∀ j, j < k → A j = B j)) (fun i _ => n - (intOf i).toNat)
  case atStart => exact ⟨0, Nat.zero_le _, rfl, Below.refl _ _, fun j hj => by omega⟩
  case round =>
    obtain ⟨k, hk, rfl, hb, HE⟩ := hrel
    by_cases hlt : k < n
    · have c1 := later hb (HA.out k hlt)
      have c2 := later hb (HB.out k hlt)
      have hl : (k : Int) < (n : Int) := by omega
      by_cases he : A k = B k
      · have HEQ : Hid (A k = B k) := he
        have hne : (A k != B k) = false := by simpa using he
        clear he
        go_wp2
        go_quiet (fail)
        go_wp2
        go_roundw
        case rel => exact ⟨k + 1, by omega, by go_num, below_drewN hb _, fun j hj => by
          by_cases e : j = k
          · subst e; exact HEQ.out
          · exact HE.out j (by omega)⟩
        case measure => simp [intOf]; omega
      · have HNE : Hid (¬ A k = B k) := he
        have hne : (A k != B k) = true := by simpa using he
        clear he
        go_wp2
        go_quiet (fail)
        go_wp2
        go_ret
        exact ⟨false, rfl, below_drewN hb _, ⟨fun h => (by cases h), fun h => absurd (h k hlt) HNE.out⟩⟩
    · go_wp2
      go_ret
      exact ⟨true, rfl, hb, ⟨fun _ j hj => HE.out j (by omega), fun _ => rfl⟩⟩

/-- What stands at place j of an answer. -/
def atKey (lk : Nat) (K : Nat → Int) (F : Nat → Bool) (m j : Nat) : Int := if j < lk then K j else (byteOf F m (j - lk) : Nat)
theorem atKey_iff (lk : Nat) (K : Nat → Int) (F G : Nat → Bool) (m : Nat) : (∀ j, j < lk + (m / 8 + 1) → atKey lk K F m j = atKey lk K G m j) ↔ ∀ p, p < m → F p = G p := by
  constructor
  · intro h p hp
    refine byteOf_inj F G m (fun j hj => ?_) p hp
    have := h (lk + j) (by omega)
    unfold atKey at this
    rw [if_neg (by omega), if_neg (by omega), Nat.add_sub_cancel_left] at this
    omega
  · intro h j hj
    unfold atKey
    split
    · rfl
    · rw [byteOf_congr F G m h]
theorem key_cells {w : World} {g lk m : Nat} {K : Nat → Int} {F : Nat → Bool} (h : ∀ j, j < lk + (m / 8 + 1) → w.cell? ⟨g, j, none⟩ = ((List.range lk).map (fun i => Value.int .u8 (K i)) ++ bytesV (bytesOf F m))[j]?) :
    ∀ j, j < lk + (m / 8 + 1) → w.cell? ⟨g, j, none⟩ = some (.int .u8 (atKey lk K F m j)) := by
  intro j hj
  rw [h j hj]
  unfold atKey
  by_cases e : j < lk
  · rw [List.getElem?_append_left (by simpa using e), if_pos e]
    simp [e]
  · rw [List.getElem?_append_right (by simp; omega), if_neg e]
    have : j - lk < m / 8 + 1 := by omega
    simp [bytesV, bytesOf, this]

set_option maxHeartbeats 2000000 in
theorem law7 (ak af ag ac : Option Addr) (lk ck lf cf lg cg lc cc : Nat) (K : Nat → Int) (F G : Nat → Bool) (C : Nat → Int) (en : Int) (w : World) (mk : lk ≤ maxLen) (mf : lf ≤ maxLen) (mg : lg ≤ maxLen) (mc : lc ≤ maxLen)
    (hK : Els w ak lk (fun i => .int .u8 (K i))) (hF : Els w af lf (fun i => .bool (F i))) (hG : Els w ag lg (fun i => .bool (G i))) (hC : Els w ac lc (fun i => .int .i64 (C i))) :
    Calls Try.prog 7 #[.slice ak lk ck, .slice af lf cf, .slice ag lg cg, .slice ac lc cc, .int .i64 en] w fun e w' => e = .returned (.bool true) ∧ Below w.heap.size w w' := by
  go_enter Try.func7, Try.ntmps7
  go_wp2_with fail
  refine (zz21 ak af ag ac lk ck lf cf lg cg lc cc en w mk mf mg mc).mono ?_
  rintro e w0 ⟨r, rfl, rfl, hr⟩
  cases r with
  | false => go_wp2; go_ret; exact ⟨rfl, Below.refl _ _⟩
  | true =>
  obtain ⟨bk, bf, bg, bc⟩ := hr rfl
  clear hr
  by_cases h1 : 65536 < lk
  · go_wp2; go_ret; exact ⟨rfl, Below.refl _ _⟩
  by_cases h2 : 65536 < lf
  · go_wp2; go_ret; exact ⟨rfl, Below.refl _ _⟩
  by_cases h2' : 65536 < lg
  · go_wp2; go_ret; exact ⟨rfl, Below.refl _ _⟩
  by_cases h3 : 65536 < lc
  · go_wp2; go_ret; exact ⟨rfl, Below.refl _ _⟩
  go_wp2_with fail
  refine (upto_any ac lc cc C en w bc hC).mono ?_
  rintro e w0 ⟨rfl, rfl⟩
  obtain ⟨m, hm⟩ : ∃ m, m = pfx C en 0 lc := ⟨_, rfl⟩
  have hmle : m ≤ lc := by have := pfx_le C en 0 lc; omega
  rw [← hm]
  have HM : Hid (m = pfx C en 0 lc) := hm
  clear hm
  by_cases h4 : lf < m
  · go_wp2; go_ret; exact ⟨rfl, Below.refl _ _⟩
  by_cases h5 : lg < m
  · go_wp2; go_ret; exact ⟨rfl, Below.refl _ _⟩
  go_wp2_with fail
  refine (cloneByte_any ak lk ck K w bk hK).mono ?_
  rintro e w1 ⟨a1, rfl, b1, k1⟩
  have n1 := b1.size
  go_wp2_with fail
  refine (cloneBool_any af lf cf F w1 bf (hF.below b1)).mono ?_
  rintro e w2 ⟨a2, rfl, b2, k2⟩
  have n2 := b2.size
  go_wp2_with fail
  refine (cloneBool_any ag lg cg G w2 bg ((hG.below b1).below b2)).mono ?_
  rintro e w2' ⟨a2', rfl, b2', k2'⟩
  have n2' := b2'.size
  go_wp2_with fail
  refine (clone64_any ac lc cc C w2' bc (((hC.below b1).below b2).below b2')).mono ?_
  rintro e w3 ⟨a3, rfl, b3, k3⟩
  have n3 := b3.size
  have e1 : Els w3 a1 lk (fun i => .int .u8 (K i)) := ((k1.els.below b2).below b2').below b3
  have e2 : Els w3 a2 lf (fun i => .bool (F i)) := (k2.els.below b2').below b3
  have e2' : Els w3 a2' lg (fun i => .bool (G i)) := k2'.els.below b3
  have e3 : Els w3 a3 lc (fun i => .int .i64 (C i)) := k3.els
  have B3 : Below w.heap.size w w3 := belowThen (belowThen (belowThen b1 b2) b2') b3
  clear k1 k2 k2' k3 hK hF hG hC b1 b2 b2' b3
  go_wp2_with fail
  refine (cloneByte_any a1 lk lk K w3 bk e1).mono ?_
  rintro e w4 ⟨a4, rfl, b4, k4⟩
  have n4 := b4.size
  have o4 := k4.owns mk
  go_wp2_with fail
  refine (zz_append (.slice a4 lk lk) lk _ w3.heap.size a2 a3 lc lc lf lf F C en w4 bc bk (by rw [← HM.out]; omega) n4 o4 (fun wr hb => e2.below (b4.trans hb)) (e3.below b4)).mono ?_
  rintro e w5 ⟨v5, rfl, b5, o5⟩
  rw [← HM.out] at o5
  have n5 := b5.size
  obtain ⟨g, cap, hv, hg, hgc, hcell⟩ := owns_shape o5 (by omega)
  subst hv
  have B5 : Below w3.heap.size w3 w5 := b4.trans b5
  have c5 := key_cells hcell
  have E1 := e1.below B5
  have E2 := e2.below B5
  have E2' := e2'.below B5
  have E3 := e3.below B5
  have BB : Below w.heap.size w w5 := belowThen B3 B5
  clear hcell o5 o4 k4 b4 b5 e1 e2 e2' e3 B3 B5
  go_wp2_with fail
  refine (cloneByte_any a1 lk lk K w5 bk E1).mono ?_
  rintro e w6 ⟨a6, rfl, b6, k6⟩
  have n6 := b6.size
  have o6 := k6.owns mk
  go_wp2_with fail
  refine (zz_append (.slice a6 lk lk) lk _ w5.heap.size a2' a3 lc lc lg lg G C en w6 bc bk (by rw [← HM.out]; omega) n6 o6 (fun wr hb => E2'.below (b6.trans hb)) (E3.below b6)).mono ?_
  rintro e w7 ⟨v7, rfl, b7, o7⟩
  rw [← HM.out] at o7
  have n7 := b7.size
  obtain ⟨g7, cap7, hv7, hg7, hgc7, hcell7⟩ := owns_shape o7 (by omega)
  subst hv7
  have B7 : Below w5.heap.size w5 w7 := b6.trans b7
  have c7 := key_cells hcell7
  have c57 : ∀ j, j < lk + (m / 8 + 1) → w7.cell? ⟨g, j, none⟩ = some (.int .u8 (atKey lk K F m j)) := fun j hj => later B7 (c5 j hj)
  have F2 := E2.below B7
  have F2' := E2'.below B7
  have BC : Below w.heap.size w w7 := belowThen BB B7
  clear hcell7 o7 o6 k6 b6 b7 E1 E2 E2' E3 BB B7 c5
  have C5 := (show Hid (∀ j, j < lk + (m / 8 + 1) → w7.cell? ⟨g, j, none⟩ = some (.int .u8 (atKey lk K F m j))) from c57)
  have C7 := (show Hid (∀ j, j < lk + (m / 8 + 1) → w7.cell? ⟨g7, j, none⟩ = some (.int .u8 (atKey lk K G m j))) from c7)
  clear c57 c7
  go_wp2
  go_loopw [14, 15] (fun s i wr => ∃ k : Nat, k ≤ m ∧ i = .int .i64 k ∧ s = .bool (sameTo F G k) ∧ Below w7.heap.size w7 wr) (fun _ i _ => m - (intOf i).toNat)
  case atStart => exact ⟨0, Nat.zero_le _, rfl, rfl, Below.refl _ _⟩
  case round =>
    obtain ⟨k, hk, rfl, rfl, hb⟩ := hrel
    by_cases hlt : k < m
    · obtain ⟨x1, hx1, c1⟩ := F2 k (by omega)
      obtain ⟨x2, hx2, c2⟩ := F2' k (by omega)
      subst hx1
      subst hx2
      have c1' := later hb c1
      have c2' := later hb c2
      have hl1 : (k : Int) < (lf : Int) := by omega
      have hl2 : (k : Int) < (lg : Int) := by omega
      clear c1 c2
      by_cases he : F k = G k
      · have HEQ : Hid (F k = G k) := he
        have hne : (F k == G k) = true := by simpa using he
        clear he
        go_wp2
        go_quiet (fail)
        go_wp2
        go_roundw
        case rel => exact ⟨k + 1, by omega, by go_num, by simp [sameTo, HEQ.out], below_drewN hb _⟩
        case measure => simp [intOf]; omega
      · have HNE : Hid (¬ F k = G k) := he
        have hne : (F k == G k) = false := by simpa using he
        clear he
        go_wp2
        go_quiet (fail)
        go_wp2
        go_roundw
        case rel => exact ⟨k + 1, by omega, by go_num, by simp [sameTo, HNE.out], below_drewN hb _⟩
        case measure => simp [intOf]; omega
    · obtain rfl : k = m := by omega
      go_wp2_with fail
      refine (bytes_equal g g7 (lk + (k / 8 + 1)) cap cap7 _ _ wr (by omega) (fun j hj => later hb (C5.out j hj)) (fun j hj => later hb (C7.out j hj))).mono ?_
      rintro e w8 ⟨r, rfl, b8, hiff⟩
      have hr : r = sameTo F G k := by
        rw [Bool.eq_iff_iff, hiff, sameTo_iff]
        exact atKey_iff lk K F G k
      subst hr
      clear hiff
      have hbe : (sameTo F G k == sameTo F G k) = true := by simp
      go_wp2
      go_ret
      exact ⟨by simp, belowThen (belowThen BC hb) b8⟩
end Go.Proofs.Qxb6602786a
