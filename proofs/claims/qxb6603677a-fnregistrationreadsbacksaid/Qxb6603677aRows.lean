/-
  No cell of these rows narrows 'for every input' (looked for: loops, veiled, ifaces, maps, wideKeys, modest, calm, conditions, laid).
  DERIVED. THE GIVEN ROWS OF THIS SEAT. 1 by the template 'for every input the law returns true; each argument reads behind the call as it read before'; 0 by the template 'total and deterministic' (their statements: Qxb6603677aTotals.lean).
  GIVEN WITH THE SEED: the statements are not yours to turn. If you find one false, say at which input.
  Laid BY PROGRAM, IN A SANDBOX (cutbox-rows.mjs): the forced cells as the released guide's own fill.sh prints them over the translation 5f7cf0872435e986… (all of the seat's roots in one cut). By AI agents, Wed Nov 11 2026. No macro, syntax, notation, axiom, sorry.
-/
import Derived.Test.Qxb6603677aChecked
import GoSem.Claim
import GoSem.ClaimJoined
import GoSem.ClaimMapViews
import Derived.JoinedTies
import Derived.KernelRfl
namespace Go.Proofs.Qxb6603677a
/- THE CELL 'sum', in the pinned program and in every row, IS THE sha256 OF THE DUMP (.gsa) THAT Qxb6603677aProg.lean LOADS. Nothing in Lean hashes anything: it is a label: what it is worth is what the hold of that sum in a sandbox is worth. -/
noncomputable def Try.pinned : Pinned := { name := "qxb6603677a", sum := "5f7cf0872435e986ed0b36fd8563a952e398eb7f8a33bfd2e5090922b12d2c2a", checked := Try.checked }
namespace Rows
def none {H : Type} : Left H := { results := [], args := [] }

/-- 'zzlaws_internal_coordinator_b1.FnRegistrationReadsBack': WHATEVER THE INPUT: true; the input reads as it did. -/
def fnRegistrationReadsBackSpec : ChangeSpec := { name := "fnRegistrationReadsBack", fn := fun _ => fun
  | [d1, d2, d3, d4, d5, d6, d7] => { results := [.lit (.bool true)], args := [d1, d2, d3, d4, d5, d6, d7] }
  | _ => none }
def fnRegistrationReadsBackRow : OpenClaim := { program := "qxb6603677a", sum := "5f7cf0872435e986ed0b36fd8563a952e398eb7f8a33bfd2e5090922b12d2c2a", func := "example.com/covenant/covenant/zzlaws_internal_coordinator_b1.FnRegistrationReadsBack", spec := "fnRegistrationReadsBack", apart := false }
def FnRegistrationReadsBackSaid : Prop := fnRegistrationReadsBackRow.holds Try.pinned (OpenSpec.ofChange fnRegistrationReadsBackSpec)

/-- ITS FALSE NEIGHBOUR: 'it returns false'. Refute it at one input. -/
def fnRegistrationReadsBackWrong : ChangeSpec := { name := "fnRegistrationReadsBack", fn := fun _ => fun
  | [d1, d2, d3, d4, d5, d6, d7] => { results := [.lit (.bool false)], args := [d1, d2, d3, d4, d5, d6, d7] }
  | _ => none }
def FnRegistrationReadsBackWrongFalsely : Prop := fnRegistrationReadsBackRow.holds Try.pinned (OpenSpec.ofChange fnRegistrationReadsBackWrong)

end Rows
end Go.Proofs.Qxb6603677a
