import Derived.Test.Qxb6603677aRows
import Derived.WalkKit
import Derived.ProofKit
import Derived.OpenShut
import Derived.ShutString
import Derived.ChangeOld
import Derived.Below
import Derived.Handy
import Derived.Deep.OwnRows
import Derived.Deep.Grids
import Derived.Deep.QuietTactic
import Derived.BigQuiet
import Derived.RegionTactic
import Derived.WalkLawsBesides
import Derived.PlainAid
import Derived.SliceStrings
import Derived.Deep.Strs
namespace Go.Proofs.Qxb6603677a
open Go.ChangeShapes Go.WideShapes Go.ChangeAt Go.RowKit Go.Deep


theorem Try.info9 : (Try.prog.info? 9).map (fun i => (i.zero, i.size, i.bytes)) = some (some (.string ByteArray.empty), 1, 16) := by kernel_rfl
theorem later {w wx : World} {a : Addr} {v : Value} (hb : Below w.heap.size w wx) (h : w.cell? a = some v) : wx.cell? a = some v := (hb.cell (World.block_lt_of_cell? _ _ h)).trans h
theorem belowTrans {B : Nat} {w w1 w2 : World} (h1 : Below B w w1) (h2 : Below w1.heap.size w1 w2) (hB : B ≤ w1.heap.size) : Below B w w2 := h1.trans (h2.mono hB)
theorem belowThen {w w1 w2 : World} (h1 : Below w.heap.size w w1) (h2 : Below w1.heap.size w1 w2) : Below w.heap.size w w2 := h1.trans (h2.mono h1.size)

/-- The first 'len' cells from the slice's address on hold V 0, V 1, .. -/
def Els (w : World) (a : Option Addr) (len : Nat) (V : Nat → Value) : Prop := ∀ i, i < len → ∃ x, a = some x ∧ w.cell? (x.add i) = some (V i)

theorem Els.below {w w' : World} {a : Option Addr} {len : Nat} {V : Nat → Value} (h : Els w a len V) (hb : Below w.heap.size w w') : Els w' a len V := fun i hi => by
  obtain ⟨x, hx, hc⟩ := h i hi
  exact ⟨x, hx, later hb hc⟩
theorem Els.nil {w : World} {len : Nat} {V : Nat → Value} (h : Els w none len V) : len = 0 := by
  rcases Nat.eq_zero_or_pos len with h0 | h0
  · exact h0
  · obtain ⟨x, hx, _⟩ := h 0 h0
    cases hx
theorem Els.at {w : World} {x : Addr} {len : Nat} {V : Nat → Value} (h : Els w (some x) len V) {i : Nat} (hi : i < len) : w.cell? (x.add i) = some (V i) := by
  obtain ⟨y, hy, hc⟩ := h i hi
  cases hy
  exact hc
theorem Els.mk {w : World} {x : Addr} {len : Nat} {V : Nat → Value} (h : ∀ i, i < len → w.cell? (x.add i) = some (V i)) : Els w (some x) len V := fun i hi => ⟨x, rfl, h i hi⟩
theorem Els.of_row {w : World} {b : Nat} {t : TypeId} {len : Nat} {V : Nat → Value} (h : w.rowIs b t len V) : Els w (some ⟨b, 0, none⟩) len V := Els.mk fun i hi => by rw [add_plain, Nat.zero_add]; exact h.cell hi

/-- What a clone leaves: nil of nil; else a new row. -/
def Cloned (w w' : World) (t : TypeId) (a a' : Option Addr) (len : Nat) (V : Nat → Value) : Prop :=
  (a = none ∧ a' = none ∧ len = 0) ∨ (a' = some ⟨w.heap.size, 0, none⟩ ∧ w'.rowIs w.heap.size t len V)
theorem Cloned.els {w w' : World} {t : TypeId} {a a' : Option Addr} {len : Nat} {V : Nat → Value} (h : Cloned w w' t a a' len V) : Els w' a' len V := by
  rcases h with ⟨_, rfl, rfl⟩ | ⟨rfl, h⟩
  · intro i hi; omega
  · exact Els.of_row h
theorem rowIs_list {w : World} {b : Nat} {t : TypeId} {n : Nat} {f : Nat → Value} (h : w.rowIs b t n f) : ∃ cur : Array Value, w.heap[b]? = some (.cells cur t (0, 0)) ∧ cur.size = n ∧ cur.toList = (List.range n).map f := by
  obtain ⟨c, hb, hn, hc⟩ := h
  refine ⟨c, hb, hn, ?_⟩
  apply List.ext_getElem?
  intro j
  by_cases hj : j < n
  · have := hc j hj
    simp [hj] at this ⊢
    exact this
  · simp [hj, hn]
theorem Cloned.owns {w w' : World} {t : TypeId} {a a' : Option Addr} {len : Nat} {V : Nat → Value} (h : Cloned w w' t a a' len V) (hm : len ≤ maxLen) : w'.ownsRow w.heap.size t 1 (.slice a' len len) len ((List.range len).map V) := by
  rcases h with ⟨_, rfl, rfl⟩ | ⟨rfl, h⟩
  · exact World.ownsRow_nil _ _ _ _
  · obtain ⟨cur, hb, hn, hl⟩ := rowIs_list h
    refine ⟨by simp, .inr ⟨w.heap.size, len, cur, rfl, Nat.le_refl _, hb, Nat.le_refl _, hm, by simpa using hn, ?_⟩⟩
    rw [hl]
    exact List.take_of_length_le (by simp)


/-- The call answers a bool; where it is true, X holds. -/
def Says (X : Prop) (e : Ending) : Prop := ∃ r : Bool, e = .returned (.bool r) ∧ (r = true → X)
theorem Says.no {X : Prop} : Says X (.returned (.bool false)) := ⟨false, rfl, fun h => by cases h⟩
theorem Says.yes {X : Prop} (h : X) : Says X (.returned (.bool true)) := ⟨true, rfl, fun _ => h⟩
/-- The call answers an int of which X holds. -/
def Gives (X : Int → Prop) (e : Ending) : Prop := ∃ r, e = .returned (.int .i64 r) ∧ X r
theorem Gives.mk {X : Int → Prop} {r : Int} (h : X r) : Gives X (.returned (.int .i64 r)) := ⟨r, rfl, h⟩
theorem hide' {p : Prop} (h : p) : Hid p := h

set_option maxHeartbeats 400000 in
theorem cloneStr_some (x : Addr) (len cap : Nat) (V : Nat → ByteArray) (w : World) (hlen : len ≤ 1048576) (hE : ∀ i, i < len → w.cell? (x.add i) = some (.string (V i))) :
    Calls Try.prog 7 #[.slice (some x) len cap] w fun e w' => e = .returned (.slice (some ⟨w.heap.size, 0, none⟩) len len) ∧ Below w.heap.size w w' ∧ w'.rowIs w.heap.size 9 len (fun i => .string (V i)) := by
  have hmk := run_make_row' (P := Try.prog) 24 9 (.string ByteArray.empty) 16 Try.underlying24 Try.info9 rfl .i64 .i64 len (by omega) (by omega)
  have hnil := fun w => Lib.run_eql_slice_nil (P := Try.prog) w 24 9 (some x) len cap 0 0 Try.underlying24
  go_enter Try.func7, Try.ntmps7
  go_wp2
  go_loopw [4] (fun i wr => ∃ k : Nat, k ≤ len ∧ i = .int .i64 k ∧ Below w.heap.size w wr ∧ wr.rowIs w.heap.size 9 len (fun j => .string (if j < k then V j else ByteArray.empty))) (fun i _ => len - (intOf i).toNat)
  case atStart => exact ⟨0, by omega, rfl, (Below.refl _ _).alloc (Nat.le_refl _) _, (World.rowIs_made _ _ _ _).congr (by intro i hi; simp)⟩
  case round =>
    obtain ⟨k, hk, rfl, hb, hr⟩ := hrel
    by_cases hlt : k < len
    · have hc : wr.cell? (x.add k) = some (.string (V k)) := later hb (hE k hlt)
      have hd := hr.cell hlt
      have hf := hr.frozen k
      go_wp2
      go_roundw
      case rel =>
        refine ⟨k + 1, by omega, by go_num, hb.setCell (Nat.le_refl _) _, (hr.set k _).congr ?_⟩
        intro i hi
        by_cases e : i = k
        · subst e; simp
        · by_cases e2 : i < k
          · rw [if_neg e, if_pos e2, if_pos (by omega)]
          · rw [if_neg e, if_neg e2, if_neg (by omega)]
      case measure => simp [intOf]; omega
    · go_wp2
      go_ret
      refine ⟨rfl, hb, hr.congr ?_⟩
      intro i hi
      rw [if_pos (by omega)]

theorem cloneStr_any (a : Option Addr) (len cap : Nat) (V : Nat → ByteArray) (w : World) (hlen : len ≤ 1048576) (hE : Els w a len (fun i => .string (V i))) :
    Calls Try.prog 7 #[.slice a len cap] w fun e w' => ∃ a', e = .returned (.slice a' len len) ∧ Below w.heap.size w w' ∧ Cloned w w' 9 a a' len (fun i => .string (V i)) := by
  cases a with
  | none =>
    obtain rfl := hE.nil
    have hnil := fun w => Lib.run_eql_slice_nil (P := Try.prog) w 24 9 none 0 cap 0 0 Try.underlying24
    go_enter Try.func7, Try.ntmps7
    go_wp2
    go_ret
    exact ⟨none, rfl, Below.refl _ _, .inl ⟨rfl, rfl, rfl⟩⟩
  | some x =>
    refine (cloneStr_some x len cap V w hlen fun i hi => hE.at hi).mono ?_
    rintro e w' ⟨rfl, hb, hr⟩
    exact ⟨_, rfl, hb, .inr ⟨rfl, hr⟩⟩

end Go.Proofs.Qxb6603677a
