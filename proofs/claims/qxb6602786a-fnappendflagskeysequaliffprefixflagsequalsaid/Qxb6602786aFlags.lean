import Derived.Test.Qxb6602786aBase
import Derived.Test.Qxb6602786aPlain
import Derived.Test.Qxb6602786aAtt
import Derived.Laws.BitsAllLaws
namespace Go.Proofs.Qxb6602786a
open Go.ChangeShapes Go.WideShapes Go.ChangeAt Go.RowKit Go.Deep

def packS (F : Nat → Bool) (k : Nat) : Int := (pack F (8 * (k / 8)) (k % 8) : Nat)
/-- The byte behind the round at k. -/
def packN (F : Nat → Bool) (k : Nat) : Int := (pack F (8 * (k / 8)) (k % 8 + 1) : Nat)
def bytesV (l : List Nat) : List Value := l.map fun (b : Nat) => Value.int .u8 b
theorem pow8 (t : Nat) (h : t < 8) : 2 ^ t < 256 := by
  have : 2 ^ t ≤ 2 ^ 7 := Nat.pow_le_pow_right (by omega) (by omega)
  omega
theorem packN_hit (F : Nat → Bool) (k : Nat) (h : F k = true) : bits .or .u8 (packS F k) (2 ^ (k % 8) % 256) = packN F k := by
  have ht : k % 8 < 8 := Nat.mod_lt _ (by omega)
  have hp := pow8 _ ht
  have hl := pack_lt F (8 * (k / 8)) (k % 8)
  have e1 : ((2 : Int) ^ (k % 8) % 256) = ((2 ^ (k % 8) : Nat) : Int) := by
    have : ((2 ^ (k % 8) : Nat) : Int) = (2 : Int) ^ (k % 8) := by simp
    omega
  unfold packS packN
  rw [e1, u8_or_nat _ _ (by omega) hp, Nat.or_comm, nat_join (k % 8) _ _ (by simp) hl]
  show _ = ((pack F (8 * (k / 8)) (k % 8) + if F (8 * (k / 8) + k % 8) then 2 ^ (k % 8) else 0 : Nat) : Int)
  rw [Nat.div_add_mod, if_pos h, Nat.add_comm]
theorem packN_miss (F : Nat → Bool) (k : Nat) (h : F k = false) : packN F k = packS F k := by
  unfold packS packN
  show ((pack F (8 * (k / 8)) (k % 8) + if F (8 * (k / 8) + k % 8) then 2 ^ (k % 8) else 0 : Nat) : Int) = _
  rw [Nat.div_add_mod, h]
  simp
theorem packS_next (F : Nat → Bool) (k : Nat) (h : k % 8 ≠ 7) : packS F (k + 1) = packN F k := by
  unfold packS packN
  have e1 : (k + 1) / 8 = k / 8 := by omega
  have e2 : (k + 1) % 8 = k % 8 + 1 := by omega
  rw [e1, e2]
theorem packS_over (F : Nat → Bool) (k : Nat) (h : k % 8 = 7) : packS F (k + 1) = 0 := by
  unfold packS
  have e2 : (k + 1) % 8 = 0 := by omega
  rw [e2]; rfl
theorem full_over (F : Nat → Bool) (k : Nat) (h : k % 8 = 7) : bytesV (fullOf F ((k + 1) / 8)) = bytesV (fullOf F (k / 8)) ++ [.int .u8 (packN F k)] := by
  have e1 : (k + 1) / 8 = k / 8 + 1 := by omega
  rw [e1, fullOf_succ]
  simp [bytesV, packN, h]

set_option maxHeartbeats 1000000 in
theorem append_flags (v : Value) (n : Nat) (xs : List Value) (base : Nat) (af : Option Addr) (ba : Nat) (A : Nat → Value) (len capa lenf capf : Nat) (F : Nat → Bool) (C : Nat → Int) (en : Int) (w : World) (hlen : len ≤ 1048576) (hn : n ≤ 1048576)
    (hm : pfx C en 0 len ≤ lenf) (hbase : base ≤ w.heap.size) (hown : w.ownsRow base 5 1 v n xs)
    (hF : ∀ wr, Below base w wr → Els wr af lenf (fun i => .bool (F i)))
    (hR : w.rowIs ba 44 (len * 5) A) (hA : ∀ i, i < len → A (i * 5) = .int .i64 (C i)) :
    Calls Try.prog 25 #[v, .slice af lenf capf, .slice (some ⟨ba, 0, none⟩) len capa, .int .i64 en] w fun e w' => ∃ v', e = .returned v' ∧ Below base w w' ∧ w'.ownsRow base 5 1 v' (n + (pfx C en 0 len / 8 + 1)) (xs ++ bytesV (bytesOf F (pfx C en 0 len))) := by
  obtain ⟨i0, hi, hz0, hz1, hz2⟩ := info_parts Try.info5
  go_enter Try.func25, Try.ntmps25
  go_wp2
  go_loopw [0, 9, 10] (fun v b i wr => ∃ k : Nat, k ≤ pfx C en 0 len ∧ i = .int .i64 k ∧ b = .int .u8 (packS F k) ∧ Below base w wr ∧ wr.ownsRow base 5 1 v (n + k / 8) (xs ++ bytesV (fullOf F (k / 8))) ∧ wr.rowIs ba 44 (len * 5) A) (fun _ _ i _ => len - (intOf i).toNat)
  case atStart => exact ⟨0, Nat.zero_le _, rfl, rfl, Below.refl _ _, by simpa [bytesV, fullOf] using hown, hR⟩
  case round =>
    obtain ⟨k, hk, rfl, rfl, hb, ho, hr⟩ := hrel
    have HA : Hid (∀ i, i < len → A (i * 5) = .int .i64 (C i)) := hA
    clear hA
    have hmlen := pfx_le C en 0 len
    have hbs := hb.size
    by_cases hlt : k < pfx C en 0 len
    · have hC := pfx_below C en 0 len k (by omega) hlt
      have hc1 : wr.cell? ⟨ba, k * 5, none⟩ = some (.int .i64 (C k)) := (hr.cell (by omega)).trans (by rw [HA.out k (by omega)])
      obtain ⟨xf, hxf, hc2⟩ := hF wr hb k (by omega)
      subst hxf
      clear hF
      by_cases h7 : k % 8 = 7
      · have H7 : Hid (k % 8 = 7) := h7
        clear h7
        cases hFk : F k
        · have hc3 : wr.cell? (xf.add k) = some (.bool false) := by simpa [hFk] using hc2
          have HM : Hid (packN F k = packS F k) := packN_miss F k hFk
          clear hc2 hFk
          have h7' : ((k : Int) % 8 == 7) = true := by have := H7.out; simp; omega
          go_wp2_with (at_builtin; refine wpList_append_own _ rfl (.tmp 38) (.tmp 40) 33 rfl base 5 i0 (.int .u8 0) 1 1 Try.underlying33 hi hz0 hz1 hz2 rfl (by decide) _ _ _ rfl (ho.alloc _) ⟨wr.heap.size, 0, none⟩ 1 1 [.int .u8 (packS F k)] rfl rfl ?c1 ?c2 ?c3 ?c4 ?c5 ?_)
          try (case c1 => intro j u hj; match j, hj with | 0, hj => simp at hj; subst hj; simp [Addr.add])
          case c2 => first | rfl | (intro u hu; simp at hu; subst hu; rfl)
          case c3 => unfold maxLen; omega
          case c4 => omega
          case c5 => first | omega | (simp; omega)
          intro v' w1 hown' hgrow _
          clear hc3 hc1
          go_wp2
          go_roundw
          case rel =>
            have h7 := H7.out
            refine ⟨k + 1, by omega, by go_num, by rw [packS_over F k h7], ?_, ?_, (hr.alloc _).of_block (hgrow.block ba (hr.alloc _).lt (row_apart ho hr))⟩
            · exact (hb.alloc (by omega) _).grown hgrow (by simp; omega) (fun j hj => (ho.lt j hj).1)
            · have e1 : n + (k + 1) / 8 = n + k / 8 + 1 := by omega
              rw [full_over F k h7, HM.out, e1]
              exact hown'
          case measure => simp [intOf]; omega
        · have hc3 : wr.cell? (xf.add k) = some (.bool true) := by simpa [hFk] using hc2
          have hor := packN_hit F k hFk
          clear hc2 hFk
          have h7' : ((k : Int) % 8 == 7) = true := by have := H7.out; simp; omega
          go_wp2_with (at_builtin; refine wpList_append_own _ rfl (.tmp 38) (.tmp 40) 33 rfl base 5 i0 (.int .u8 0) 1 1 Try.underlying33 hi hz0 hz1 hz2 rfl (by decide) _ _ _ rfl (ho.alloc _) ⟨wr.heap.size, 0, none⟩ 1 1 [.int .u8 (packN F k)] rfl rfl ?c1 ?c2 ?c3 ?c4 ?c5 ?_)
          try (case c1 => intro j u hj; match j, hj with | 0, hj => simp at hj; subst hj; simp [Addr.add])
          case c2 => first | rfl | (intro u hu; simp at hu; subst hu; rfl)
          case c3 => unfold maxLen; omega
          case c4 => omega
          case c5 => first | omega | (simp; omega)
          intro v' w1 hown' hgrow _
          clear hc3 hc1
          go_wp2
          go_roundw
          case rel =>
            have h7 := H7.out
            refine ⟨k + 1, by omega, by go_num, by rw [packS_over F k h7], ?_, ?_, (hr.alloc _).of_block (hgrow.block ba (hr.alloc _).lt (row_apart ho hr))⟩
            · exact (hb.alloc (by omega) _).grown hgrow (by simp; omega) (fun j hj => (ho.lt j hj).1)
            · have e1 : n + (k + 1) / 8 = n + k / 8 + 1 := by omega
              rw [full_over F k h7, e1]
              exact hown'
          case measure => simp [intOf]; omega
      · have H7 : Hid (¬ k % 8 = 7) := h7
        clear h7
        cases hFk : F k
        · have hc3 : wr.cell? (xf.add k) = some (.bool false) := by simpa [hFk] using hc2
          have HM : Hid (packN F k = packS F k) := packN_miss F k hFk
          clear hc2 hFk
          have h7' : ((k : Int) % 8 == 7) = false := by have := H7.out; simp; omega
          go_wp2
          go_roundw
          case rel =>
            have h7 := H7.out
            have e1 : (k + 1) / 8 = k / 8 := by omega
            exact ⟨k + 1, by omega, by go_num, by rw [packS_next F k h7, HM.out], hb, by rw [e1]; exact ho, hr⟩
          case measure => simp [intOf]; omega
        · have hc3 : wr.cell? (xf.add k) = some (.bool true) := by simpa [hFk] using hc2
          have hor := packN_hit F k hFk
          clear hc2 hFk
          have h7' : ((k : Int) % 8 == 7) = false := by have := H7.out; simp; omega
          go_wp2
          go_roundw
          case rel =>
            have h7 := H7.out
            have e1 : (k + 1) / 8 = k / 8 := by omega
            exact ⟨k + 1, by omega, by go_num, by rw [packS_next F k h7], hb, by rw [e1]; exact ho, hr⟩
          case measure => simp [intOf]; omega
    · have HK : Hid (k = pfx C en 0 len) := by show k = pfx C en 0 len; omega
      have hat : k < len → en < C k := fun h => by have e := HK.out; rw [e] at h ⊢; exact pfx_at C en 0 len (by omega)
      have hc1 : k < len → wr.cell? ⟨ba, k * 5, none⟩ = some (.int .i64 (C k)) := fun h => (hr.cell (by omega)).trans (by rw [HA.out k h])
      clear hF
      by_cases hkl : k < len
      all_goals
        first
          | (have hat' := hat hkl
             have hc1' := hc1 hkl
             clear hat hc1)
          | clear hat hc1
        go_wp2_with (at_builtin; refine wpList_append_own _ rfl (.tmp 42) (.tmp 44) 33 rfl base 5 i0 (.int .u8 0) 1 1 Try.underlying33 hi hz0 hz1 hz2 rfl (by decide) _ _ _ rfl (ho.alloc _) ⟨wr.heap.size, 0, none⟩ 1 1 [.int .u8 (packS F k)] rfl rfl ?c1 ?c2 ?c3 ?c4 ?c5 ?_)
        try (case c1 => intro j u hj; match j, hj with | 0, hj => simp at hj; subst hj; simp [Addr.add])
        case c2 => first | rfl | (intro u hu; simp at hu; subst hu; rfl)
        case c3 => unfold maxLen; omega
        case c4 => omega
        case c5 => first | omega | (simp; omega)
        intro v' w1 hown' hgrow _
        go_wp2
        go_ret
        refine ⟨v', rfl, (hb.alloc (by omega) _).grown hgrow (by simp; omega) (fun j hj => (ho.lt j hj).1), ?_⟩
        have e := HK.out
        rw [← e, bytesOf_eq]
        have e2 : bytesV (fullOf F (k / 8) ++ [pack F (8 * (k / 8)) (k % 8)]) = bytesV (fullOf F (k / 8)) ++ [.int .u8 (packS F k)] := by simp [bytesV, packS]
        rw [e2, ← Nat.add_assoc]
        exact hown'

set_option maxHeartbeats 400000 in
theorem upto_some (x : Addr) (len cap : Nat) (C : Nat → Int) (en : Int) (w : World) (hlen : len ≤ 1048576) (hE : ∀ i, i < len → w.cell? (x.add i) = some (.int .i64 (C i))) :
    Calls Try.prog 17 #[.slice (some x) len cap, .int .i64 en] w fun e w' => e = .returned (.int .i64 (pfx C en 0 len : Nat)) ∧ w = w' := by
  go_enter Try.func17, Try.ntmps17
  go_wp2
  go_loop [5, 6] (fun m i => ∃ k : Nat, k ≤ len ∧ i = .int .i64 ((k : Int) - 1) ∧ m = .int .i64 (pfx C en k (len - k) : Nat)) (fun _ i => (intOf i + 1).toNat)
  case atStart => exact ⟨len, by omega, rfl, by simp [pfx]⟩
  case round =>
    obtain ⟨k, hk, rfl, rfl⟩ := hrel
    by_cases hlt : 0 < k
    · obtain ⟨j, rfl⟩ : ∃ j, k = j + 1 := ⟨k - 1, by omega⟩
      have hc : w.cell? (x.add j) = some (.int .i64 (C j)) := hE j (by omega)
      have E1 : Hid (len - j = (len - (j + 1)) + 1) := by show len - j = (len - (j + 1)) + 1; omega
      by_cases hgt : en < C j
      · go_wp2
        go_round
        case rel => exact ⟨j, by omega, rfl, by rw [E1.out, pfx_stop C en j hgt]; go_num⟩
        case measure => simp [intOf]
      · go_wp2
        go_round
        case rel => exact ⟨j, by omega, rfl, by rw [E1.out, pfx_go C en j hgt]⟩
        case measure => simp [intOf]
    · obtain rfl : k = 0 := by omega
      go_wp2
      go_ret
      exact ⟨rfl, rfl⟩

theorem upto_any (a : Option Addr) (len cap : Nat) (C : Nat → Int) (en : Int) (w : World) (hlen : len ≤ 1048576) (hE : Els w a len (fun i => .int .i64 (C i))) :
    Calls Try.prog 17 #[.slice a len cap, .int .i64 en] w fun e w' => e = .returned (.int .i64 (pfx C en 0 len : Nat)) ∧ w = w' := by
  cases a with
  | none =>
    obtain rfl := hE.nil
    go_enter Try.func17, Try.ntmps17
    go_wp2
    go_rounds 1
    go_ret
    exact ⟨rfl, rfl⟩
  | some x => exact upto_some x len cap C en w hlen fun i hi => hE.at hi
end Go.Proofs.Qxb6602786a
