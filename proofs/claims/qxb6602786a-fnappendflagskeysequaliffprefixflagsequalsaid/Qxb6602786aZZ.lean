import Derived.Test.Qxb6602786aFlags
namespace Go.Proofs.Qxb6602786a
open Go.ChangeShapes Go.WideShapes Go.ChangeAt Go.RowKit Go.Deep

theorem zz_append (v : Value) (n : Nat) (xs : List Value) (base : Nat) (af : Option Addr) (ac : Option Addr) (len capc lenf capf : Nat) (F : Nat → Bool) (C : Nat → Int) (en : Int) (w : World) (hlen : len ≤ 1048576) (hn : n ≤ 1048576)
    (hm : pfx C en 0 len ≤ lenf) (hbase : base ≤ w.heap.size) (hown : w.ownsRow base 5 1 v n xs)
    (hF : ∀ wr, Below base w wr → Els wr af lenf (fun i => .bool (F i)))
    (hC : Els w ac len (fun i => .int .i64 (C i))) :
    Calls Try.prog 19 #[v, .slice af lenf capf, .slice ac len capc, .int .i64 en] w fun e w' => ∃ v', e = .returned v' ∧ Below base w w' ∧ w'.ownsRow base 5 1 v' (n + (pfx C en 0 len / 8 + 1)) (xs ++ bytesV (bytesOf F (pfx C en 0 len))) := by
  have hmk := run_make_att len hlen
  go_enter Try.func19, Try.ntmps19
  go_wp2
  go_loopw [10] (fun i wr => ∃ k : Nat, k ≤ len ∧ i = .int .i64 k ∧ Below w.heap.size w wr ∧ wr.rowIs w.heap.size 44 (len * 5) (attK C (fun _ => 0) (fun _ => false) k)) (fun i _ => len - (intOf i).toNat)
  case atStart => exact ⟨0, Nat.zero_le _, rfl, (Below.refl _ _).alloc (Nat.le_refl _) _, att_made _ _ _ _ _⟩
  case round =>
    obtain ⟨k, hk, rfl, hb, hr⟩ := hrel
    by_cases hlt : k < len
    · obtain ⟨xc, hxc, hc0⟩ := hC k hlt
      subst hxc
      have hc := later hb hc0
      clear hc0
      obtain ⟨v0, c0⟩ := att_cell hr hlt 0 (by omega)
      obtain ⟨v1, c1⟩ := att_cell hr hlt 1 (by omega)
      obtain ⟨v2, c2⟩ := att_cell hr hlt 2 (by omega)
      obtain ⟨v3, c3⟩ := att_cell hr hlt 3 (by omega)
      obtain ⟨v4, c4⟩ := att_cell hr hlt 4 (by omega)
      rw [Nat.add_zero] at c0
      have hfz := hr.frozen
      clear hC hF
      go_wp2
      go_roundw
      case rel =>
        refine ⟨k + 1, by omega, by go_num, ?_, ?_⟩
        · go_grown
        · exact att_step hr _ _ _ rfl rfl rfl
      case measure => simp [intOf]; omega
    · obtain rfl : k = len := by omega
      have HR := att_done hr
      go_wp2_with fail
      refine (append_flags v n xs base af w.heap.size _ k k lenf capf F C en wr hlen hn hm (by have := hb.size; omega) (ownsRow_below hown hb) (fun w2 h2 => hF w2 ((hb.mono hbase).trans h2)) HR (fun i hi => ?_)).mono ?_
      · rw [show attV C (fun _ => 0) (fun _ => false) (i * 5) = attF (C ((i * 5) / 5)) 0 false ((i * 5) % 5) from rfl]
        rw [Nat.mul_div_cancel _ (by omega), Nat.mul_mod_left]
        rfl
      rintro e w2 ⟨v', rfl, hb2, ho2⟩
      go_wp2
      go_ret
      exact ⟨v', rfl, (hb.mono hbase).trans hb2, ho2⟩
end Go.Proofs.Qxb6602786a
