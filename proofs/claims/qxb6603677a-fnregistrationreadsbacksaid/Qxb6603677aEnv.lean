import Derived.Test.Qxb6603677aLaw3
namespace Go.Proofs.Qxb6603677a
open Go.ChangeShapes Go.WideShapes Go.ChangeAt Go.RowKit Go.Deep
set_option linter.unusedVariables false

theorem Try.cells23 : Try.prog.cellsOf 23 = 11 := by kernel_rfl
theorem Try.cells9 : Try.prog.cellsOf 9 = 1 := by kernel_rfl
theorem Try.cells2 : Try.prog.cellsOf 2 = 1 := by kernel_rfl
theorem list11 {α : Type} (l : List α) (h : l.length = 11) : ∃ c0 c1 c2 c3 c4 c5 c6 c7 c8 c9 c10, l = [c0, c1, c2, c3, c4, c5, c6, c7, c8, c9, c10] := by
  match l, h with
  | [c0, c1, c2, c3, c4, c5, c6, c7, c8, c9, c10], _ => exact ⟨c0, c1, c2, c3, c4, c5, c6, c7, c8, c9, c10, rfl⟩

/-- The envelope, opened: six strings and five numbers. -/
theorem open_env {H : Type} {enc : TypeId × Value → H} {W : World} {r : Reach} {b0 base : Nat} {spare : Nat → Bool} {held : Bool} {v : Value} {d : DataW H} {p : List MemPlace} (hv : Value.okWide Try.prog W r b0 23 v) (h : DataW.Trod enc Try.prog W base spare held 23 v d p) :
    ∃ (s0 s1 s2 : ByteArray) (n3 n4 n5 : Int) (s6 s7 s8 : ByteArray) (n9 n10 : Int), v = .agg #[.string s0, .string s1, .string s2, .int .i64 n3, .int .i64 n4, .int .i64 n5, .string s6, .string s7, .string s8, .int .i64 n9, .int .i64 n10] ∧
      s0.size ≤ maxLen ∧ s1.size ≤ maxLen ∧ s2.size ≤ maxLen ∧ s6.size ≤ maxLen ∧ s7.size ≤ maxLen ∧ s8.size ≤ maxLen := by
  obtain ⟨cs, rfl, hsz⟩ := okWide_struct Try.underlying23 hv
  rw [Try.cells23] at hsz
  obtain ⟨l⟩ := cs
  obtain ⟨c0, c1, c2, c3, c4, c5, c6, c7, c8, c9, c10, rfl⟩ := list11 l (by simpa using hsz)
  obtain ⟨fuel, hf⟩ := h
  obtain ⟨xs, n, _, _, _, hlen, hF⟩ := DataW.trod_struct Try.underlying23 hf
  have hl : xs.length = 11 := hlen
  have q0 := hF 0 _ rfl
  have q1 := hF 1 _ rfl
  have q2 := hF 2 _ rfl
  have q3 := hF 3 _ rfl
  have q4 := hF 4 _ rfl
  have q5 := hF 5 _ rfl
  have q6 := hF 6 _ rfl
  have q7 := hF 7 _ rfl
  have q8 := hF 8 _ rfl
  have q9 := hF 9 _ rfl
  have q10 := hF 10 _ rfl
  rw [List.getElem?_eq_getElem (by omega)] at q0 q1 q2 q3 q4 q5 q6 q7 q8 q9 q10
  simp only [Value.cells] at q0 q1 q2 q3 q4 q5 q6 q7 q8 q9 q10
  obtain ⟨s0, e0, _, m0⟩ := DataW.trod_string Try.underlying9 q0
  obtain ⟨s1, e1, _, m1⟩ := DataW.trod_string Try.underlying9 q1
  obtain ⟨s2, e2, _, m2⟩ := DataW.trod_string Try.underlying9 q2
  obtain ⟨n3, e3, _, _⟩ := DataW.trod_int Try.underlying2 q3
  obtain ⟨n4, e4, _, _⟩ := DataW.trod_int Try.underlying2 q4
  obtain ⟨n5, e5, _, _⟩ := DataW.trod_int Try.underlying2 q5
  obtain ⟨s6, e6, _, m6⟩ := DataW.trod_string Try.underlying9 q6
  obtain ⟨s7, e7, _, m7⟩ := DataW.trod_string Try.underlying9 q7
  obtain ⟨s8, e8, _, m8⟩ := DataW.trod_string Try.underlying9 q8
  obtain ⟨n9, e9, _, _⟩ := DataW.trod_int Try.underlying2 q9
  obtain ⟨n10, e10, _, _⟩ := DataW.trod_int Try.underlying2 q10
  simp [Try.cells9] at e0 e1 e2 e6 e7 e8
  simp [Try.cells2] at e3 e4 e5 e9 e10
  subst e0 e1 e2 e3 e4 e5 e6 e7 e8 e9 e10
  exact ⟨s0, s1, s2, n3, n4, n5, s6, s7, s8, n9, n10, rfl, m0, m1, m2, m6, m7, m8⟩
end Go.Proofs.Qxb6603677a
