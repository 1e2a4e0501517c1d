/-
  No cell of these rows narrows 'for every input' (looked for: loops, veiled, ifaces, maps, wideKeys, modest, calm, conditions, laid).
  DERIVED. THE GIVEN ROWS OF THIS SEAT. 2 by the template 'for every input the law returns true; each argument reads behind the call as it read before'; 0 by the template 'total and deterministic' (their statements: Qxb6603582aTotals.lean).
  GIVEN WITH THE SEED: the statements are not yours to turn. If you find one false, say at which input.
  Laid BY PROGRAM, IN A SANDBOX (cutbox-rows.mjs): the forced cells as the released guide's own fill.sh prints them over the translation bec67052b6941eca… (all of the seat's roots in one cut). By AI agents, Wed Nov 11 2026. No macro, syntax, notation, axiom, sorry.
-/
import Derived.Test.Qxb6603582aChecked
import GoSem.Claim
import GoSem.ClaimJoined
import GoSem.ClaimMapViews
import Derived.JoinedTies
import Derived.KernelRfl
namespace Go.Proofs.Qxb6603582a
/- THE CELL 'sum', in the pinned program and in every row, IS THE sha256 OF THE DUMP (.gsa) THAT Qxb6603582aProg.lean LOADS. Nothing in Lean hashes anything: it is a label: what it is worth is what the hold of that sum in a sandbox is worth. -/
noncomputable def Try.pinned : Pinned := { name := "qxb6603582a", sum := "bec67052b6941ecabbf08a44209ba34576922cef7bb0799c08b12c3e522cca58", checked := Try.checked }
namespace Rows
def none {H : Type} : Left H := { results := [], args := [] }

/-- 'zzlaws_root_b1.FnArbitrateIsTheCoverOfApart': WHATEVER THE INPUT: true; the input reads as it did. -/
def fnArbitrateIsTheCoverOfApartSpec : ChangeSpec := { name := "fnArbitrateIsTheCoverOfApart", fn := fun _ => fun
  | [d1, d2, d3] => { results := [.lit (.bool true)], args := [d1, d2, d3] }
  | _ => none }
def fnArbitrateIsTheCoverOfApartRow : OpenClaim := { program := "qxb6603582a", sum := "bec67052b6941ecabbf08a44209ba34576922cef7bb0799c08b12c3e522cca58", func := "example.com/isograph/isograph/zzlaws_root_b1.FnArbitrateIsTheCoverOfApart", spec := "fnArbitrateIsTheCoverOfApart", unfollowed := true, recurses := true, plainKeys := false, apart := false }
def FnArbitrateIsTheCoverOfApartSaid : Prop := fnArbitrateIsTheCoverOfApartRow.holds Try.pinned (OpenSpec.ofChange fnArbitrateIsTheCoverOfApartSpec)

/-- ITS FALSE NEIGHBOUR: 'it returns false'. Refute it at one input. -/
def fnArbitrateIsTheCoverOfApartWrong : ChangeSpec := { name := "fnArbitrateIsTheCoverOfApart", fn := fun _ => fun
  | [d1, d2, d3] => { results := [.lit (.bool false)], args := [d1, d2, d3] }
  | _ => none }
def FnArbitrateIsTheCoverOfApartWrongFalsely : Prop := fnArbitrateIsTheCoverOfApartRow.holds Try.pinned (OpenSpec.ofChange fnArbitrateIsTheCoverOfApartWrong)

/-- 'zzlaws_root_b1.FnArbitrateGeneratesRealTime': WHATEVER THE INPUT: true; the input reads as it did. -/
def fnArbitrateGeneratesRealTimeSpec : ChangeSpec := { name := "fnArbitrateGeneratesRealTime", fn := fun _ => fun
  | [d1, d2] => { results := [.lit (.bool true)], args := [d1, d2] }
  | _ => none }
def fnArbitrateGeneratesRealTimeRow : OpenClaim := { program := "qxb6603582a", sum := "bec67052b6941ecabbf08a44209ba34576922cef7bb0799c08b12c3e522cca58", func := "example.com/isograph/isograph/zzlaws_root_b1.FnArbitrateGeneratesRealTime", spec := "fnArbitrateGeneratesRealTime", unfollowed := true, recurses := true, plainKeys := false, apart := false }
def FnArbitrateGeneratesRealTimeSaid : Prop := fnArbitrateGeneratesRealTimeRow.holds Try.pinned (OpenSpec.ofChange fnArbitrateGeneratesRealTimeSpec)

/-- ITS FALSE NEIGHBOUR: 'it returns false'. Refute it at one input. -/
def fnArbitrateGeneratesRealTimeWrong : ChangeSpec := { name := "fnArbitrateGeneratesRealTime", fn := fun _ => fun
  | [d1, d2] => { results := [.lit (.bool false)], args := [d1, d2] }
  | _ => none }
def FnArbitrateGeneratesRealTimeWrongFalsely : Prop := fnArbitrateGeneratesRealTimeRow.holds Try.pinned (OpenSpec.ofChange fnArbitrateGeneratesRealTimeWrong)

end Rows
end Go.Proofs.Qxb6603582a
