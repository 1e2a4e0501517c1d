import Derived.Test.Qxb6602786aDom
namespace Go.Proofs.Qxb6602786a
open Go.ChangeShapes Go.WideShapes Go.ChangeAt Go.RowKit Go.Deep
set_option linter.unusedVariables false

/-- The six arrays of the attempts lie in w. -/
structure Lies (s : Att) (w : World) (a0 a1 a2 a3 a4 a5 : Option Addr) (l2 l5 : Nat) : Prop where
  d : Els w a0 s.n (fun i => .int .i64 (s.D i))
  df : Els w a1 s.n (fun i => .int .i64 (s.DF i))
  p : Els w a2 l2 (fun i => .bool (s.P i))
  e : Els w a3 s.q (fun i => .int .i64 (s.E i))
  ef : Els w a4 s.q (fun i => .int .i64 (s.EF i))
  u : Els w a5 l5 (fun i => .bool (s.U i))
theorem Lies.below {s : Att} {w w' : World} {a0 a1 a2 a3 a4 a5 : Option Addr} {l2 l5 : Nat} (h : Lies s w a0 a1 a2 a3 a4 a5 l2 l5) (hb : Below w.heap.size w w') : Lies s w' a0 a1 a2 a3 a4 a5 l2 l5 :=
  ⟨h.d.below hb, h.df.below hb, h.p.below hb, h.e.below hb, h.ef.below hb, h.u.below hb⟩

set_option maxHeartbeats 1000000 in
theorem eligible (s : Att) (a0 a1 a2 a3 a4 a5 : Option Addr) (c0 c1 l2 c2 c3 c4 l5 c5 : Nat) (w : World) (c : Nat)
    (b0 : s.n ≤ 1048576) (b3 : s.q ≤ 1048576) (h2 : s.n ≤ l2) (h5 : s.q ≤ l5) (hL : Lies s w a0 a1 a2 a3 a4 a5 l2 l5) (hc : c < s.n + s.q) :
    Calls Try.prog 14 #[.slice a0 s.n c0, .slice a1 s.n c1, .slice a2 l2 c2, .slice a3 s.q c3, .slice a4 s.q c4, .slice a5 l5 c5, .int .i64 s.bd, .int .i64 s.tx, .int .i64 c] w fun e w' => e = .returned (.bool (s.elig c)) ∧ w = w' := by
  by_cases hcn : c < s.n
  · obtain ⟨xd, rfl, cD⟩ := hL.d c hcn
    obtain ⟨xf, rfl, cF⟩ := hL.df c hcn
    obtain ⟨xp, rfl, cP⟩ := hL.p c (by omega)
    clear hL
    cases hP : s.P c
    · have cP' : w.cell? (xp.add c) = some (.bool false) := by simpa [hP] using cP
      by_cases hF : s.DF c = s.tx
      · have hF' : (s.DF c == s.tx) = true := by simpa using hF
        by_cases hD : s.D c ≤ s.bd
        · have HE : Hid (s.elig c = true) := by show s.elig c = true; rw [s.elig_done c hcn]; simp [Att.doneOk, hP, hF, hD]
          clear hP hF cP
          go_enter Try.func14, Try.ntmps14
          go_wp2
          go_ret
          exact ⟨by rw [HE.out]; rfl, rfl⟩
        · have HE : Hid (s.elig c = false) := by show s.elig c = false; rw [s.elig_done c hcn]; simp [Att.doneOk, hP, hF, hD]
          clear hP hF cP
          go_enter Try.func14, Try.ntmps14
          go_wp2
          go_ret
          exact ⟨by rw [HE.out]; rfl, rfl⟩
      · have hF' : (s.DF c == s.tx) = false := by simpa using hF
        have HE : Hid (s.elig c = false) := by show s.elig c = false; rw [s.elig_done c hcn]; simp [Att.doneOk, hP, hF]
        clear hP hF cP
        go_enter Try.func14, Try.ntmps14
        go_wp2
        go_ret
        exact ⟨by rw [HE.out]; rfl, rfl⟩
    · have cP' : w.cell? (xp.add c) = some (.bool true) := by simpa [hP] using cP
      have HE : Hid (s.elig c = false) := by show s.elig c = false; rw [s.elig_done c hcn]; simp [Att.doneOk, hP]
      clear hP cP
      go_enter Try.func14, Try.ntmps14
      go_wp2
      go_ret
      exact ⟨by rw [HE.out]; rfl, rfl⟩
  · obtain ⟨j, rfl⟩ : ∃ j, c = s.n + j := ⟨c - s.n, by omega⟩
    have hj : j < s.q := by omega
    obtain ⟨xd, rfl, cD⟩ := hL.e j hj
    obtain ⟨xf, rfl, cF⟩ := hL.ef j hj
    obtain ⟨xp, rfl, cP⟩ := hL.u j (by omega)
    clear hL
    cases hP : s.U j
    · have cP' : w.cell? (xp.add j) = some (.bool false) := by simpa [hP] using cP
      by_cases hF : s.EF j = s.tx
      · have hF' : (s.EF j == s.tx) = true := by simpa using hF
        by_cases hD : s.E j ≤ s.bd
        · have HE : Hid (s.elig (s.n + j) = true) := by show s.elig (s.n + j) = true; rw [s.elig_pend j hj]; simp [Att.pendOk, hP, hF, hD]
          clear hP hF cP
          go_enter Try.func14, Try.ntmps14
          go_wp2
          go_ret
          exact ⟨by rw [HE.out]; rfl, rfl⟩
        · have HE : Hid (s.elig (s.n + j) = false) := by show s.elig (s.n + j) = false; rw [s.elig_pend j hj]; simp [Att.pendOk, hP, hF, hD]
          clear hP hF cP
          go_enter Try.func14, Try.ntmps14
          go_wp2
          go_ret
          exact ⟨by rw [HE.out]; rfl, rfl⟩
      · have hF' : (s.EF j == s.tx) = false := by simpa using hF
        have HE : Hid (s.elig (s.n + j) = false) := by show s.elig (s.n + j) = false; rw [s.elig_pend j hj]; simp [Att.pendOk, hP, hF]
        clear hP hF cP
        go_enter Try.func14, Try.ntmps14
        go_wp2
        go_ret
        exact ⟨by rw [HE.out]; rfl, rfl⟩
    · have cP' : w.cell? (xp.add j) = some (.bool true) := by simpa [hP] using cP
      have HE : Hid (s.elig (s.n + j) = false) := by show s.elig (s.n + j) = false; rw [s.elig_pend j hj]; simp [Att.pendOk, hP]
      clear hP cP
      go_enter Try.func14, Try.ntmps14
      go_wp2
      go_ret
      exact ⟨by rw [HE.out]; rfl, rfl⟩
end Go.Proofs.Qxb6602786a
