/-
  No cell of these rows narrows 'for every input' (looked for: loops, veiled, ifaces, maps, wideKeys, modest, calm, conditions, laid).
  DERIVED. THE GIVEN ROWS OF THIS SEAT. 5 by the template 'for every input the law returns true; each argument reads behind the call as it read before'; 0 by the template 'total and deterministic' (their statements: Qxb6602786aTotals.lean).
  GIVEN WITH THE SEED: the statements are not yours to turn. If you find one false, say at which input.
  Laid BY PROGRAM, IN A SANDBOX (cutbox-rows.mjs): the forced cells as the released guide's own fill.sh prints them over the translation 7d0c5b6ac05a4575… (all of the seat's roots in one cut). By AI agents, Wed Nov 11 2026. No macro, syntax, notation, axiom, sorry.
-/
import Derived.Test.Qxb6602786aChecked
import GoSem.Claim
import GoSem.ClaimJoined
import GoSem.ClaimMapViews
import Derived.JoinedTies
import Derived.KernelRfl
namespace Go.Proofs.Qxb6602786a
/- THE CELL 'sum', in the pinned program and in every row, IS THE sha256 OF THE DUMP (.gsa) THAT Qxb6602786aProg.lean LOADS. Nothing in Lean hashes anything: it is a label: what it is worth is what the hold of that sum in a sandbox is worth. -/
noncomputable def Try.pinned : Pinned := { name := "qxb6602786a", sum := "7d0c5b6ac05a45751238fa6edb97dc4986237a7217162860e7686cb1b04ec6e7", checked := Try.checked }
namespace Rows
def none {H : Type} : Left H := { results := [], args := [] }

/-- 'zzlaws_internal_history_b1.FnCandidateIsLeastEligibleAfter': WHATEVER THE INPUT: true; the input reads as it did. -/
def fnCandidateIsLeastEligibleAfterSpec : ChangeSpec := { name := "fnCandidateIsLeastEligibleAfter", fn := fun _ => fun
  | [d1, d2, d3, d4, d5, d6, d7, d8, d9, d10] => { results := [.lit (.bool true)], args := [d1, d2, d3, d4, d5, d6, d7, d8, d9, d10] }
  | _ => none }
def fnCandidateIsLeastEligibleAfterRow : OpenClaim := { program := "qxb6602786a", sum := "7d0c5b6ac05a45751238fa6edb97dc4986237a7217162860e7686cb1b04ec6e7", func := "example.com/switchback/switchback/zzlaws_internal_history_b1.FnCandidateIsLeastEligibleAfter", spec := "fnCandidateIsLeastEligibleAfter", apart := false }
def FnCandidateIsLeastEligibleAfterSaid : Prop := fnCandidateIsLeastEligibleAfterRow.holds Try.pinned (OpenSpec.ofChange fnCandidateIsLeastEligibleAfterSpec)

/-- ITS FALSE NEIGHBOUR: 'it returns false'. Refute it at one input. -/
def fnCandidateIsLeastEligibleAfterWrong : ChangeSpec := { name := "fnCandidateIsLeastEligibleAfter", fn := fun _ => fun
  | [d1, d2, d3, d4, d5, d6, d7, d8, d9, d10] => { results := [.lit (.bool false)], args := [d1, d2, d3, d4, d5, d6, d7, d8, d9, d10] }
  | _ => none }
def FnCandidateIsLeastEligibleAfterWrongFalsely : Prop := fnCandidateIsLeastEligibleAfterRow.holds Try.pinned (OpenSpec.ofChange fnCandidateIsLeastEligibleAfterWrong)

/-- 'zzlaws_internal_history_b1.FnCandidateChainVisitsEveryEligibleOnce': WHATEVER THE INPUT: true; the input reads as it did. -/
def fnCandidateChainVisitsEveryEligibleOnceSpec : ChangeSpec := { name := "fnCandidateChainVisitsEveryEligibleOnce", fn := fun _ => fun
  | [d1, d2, d3, d4, d5, d6, d7, d8, d9] => { results := [.lit (.bool true)], args := [d1, d2, d3, d4, d5, d6, d7, d8, d9] }
  | _ => none }
def fnCandidateChainVisitsEveryEligibleOnceRow : OpenClaim := { program := "qxb6602786a", sum := "7d0c5b6ac05a45751238fa6edb97dc4986237a7217162860e7686cb1b04ec6e7", func := "example.com/switchback/switchback/zzlaws_internal_history_b1.FnCandidateChainVisitsEveryEligibleOnce", spec := "fnCandidateChainVisitsEveryEligibleOnce", apart := false }
def FnCandidateChainVisitsEveryEligibleOnceSaid : Prop := fnCandidateChainVisitsEveryEligibleOnceRow.holds Try.pinned (OpenSpec.ofChange fnCandidateChainVisitsEveryEligibleOnceSpec)

/-- ITS FALSE NEIGHBOUR: 'it returns false'. Refute it at one input. -/
def fnCandidateChainVisitsEveryEligibleOnceWrong : ChangeSpec := { name := "fnCandidateChainVisitsEveryEligibleOnce", fn := fun _ => fun
  | [d1, d2, d3, d4, d5, d6, d7, d8, d9] => { results := [.lit (.bool false)], args := [d1, d2, d3, d4, d5, d6, d7, d8, d9] }
  | _ => none }
def FnCandidateChainVisitsEveryEligibleOnceWrongFalsely : Prop := fnCandidateChainVisitsEveryEligibleOnceRow.holds Try.pinned (OpenSpec.ofChange fnCandidateChainVisitsEveryEligibleOnceWrong)

/-- 'zzlaws_internal_history_b1.FnAppendFlagsPacksPrefixFlags': WHATEVER THE INPUT: true; the input reads as it did. -/
def fnAppendFlagsPacksPrefixFlagsSpec : ChangeSpec := { name := "fnAppendFlagsPacksPrefixFlags", fn := fun _ => fun
  | [d1, d2, d3, d4] => { results := [.lit (.bool true)], args := [d1, d2, d3, d4] }
  | _ => none }
def fnAppendFlagsPacksPrefixFlagsRow : OpenClaim := { program := "qxb6602786a", sum := "7d0c5b6ac05a45751238fa6edb97dc4986237a7217162860e7686cb1b04ec6e7", func := "example.com/switchback/switchback/zzlaws_internal_history_b1.FnAppendFlagsPacksPrefixFlags", spec := "fnAppendFlagsPacksPrefixFlags", apart := false }
def FnAppendFlagsPacksPrefixFlagsSaid : Prop := fnAppendFlagsPacksPrefixFlagsRow.holds Try.pinned (OpenSpec.ofChange fnAppendFlagsPacksPrefixFlagsSpec)

/-- ITS FALSE NEIGHBOUR: 'it returns false'. Refute it at one input. -/
def fnAppendFlagsPacksPrefixFlagsWrong : ChangeSpec := { name := "fnAppendFlagsPacksPrefixFlags", fn := fun _ => fun
  | [d1, d2, d3, d4] => { results := [.lit (.bool false)], args := [d1, d2, d3, d4] }
  | _ => none }
def FnAppendFlagsPacksPrefixFlagsWrongFalsely : Prop := fnAppendFlagsPacksPrefixFlagsRow.holds Try.pinned (OpenSpec.ofChange fnAppendFlagsPacksPrefixFlagsWrong)

/-- 'zzlaws_internal_history_b1.FnAppendFlagsIgnoresWhatItExtends': WHATEVER THE INPUT: true; the input reads as it did. -/
def fnAppendFlagsIgnoresWhatItExtendsSpec : ChangeSpec := { name := "fnAppendFlagsIgnoresWhatItExtends", fn := fun _ => fun
  | [d1, d2, d3, d4] => { results := [.lit (.bool true)], args := [d1, d2, d3, d4] }
  | _ => none }
def fnAppendFlagsIgnoresWhatItExtendsRow : OpenClaim := { program := "qxb6602786a", sum := "7d0c5b6ac05a45751238fa6edb97dc4986237a7217162860e7686cb1b04ec6e7", func := "example.com/switchback/switchback/zzlaws_internal_history_b1.FnAppendFlagsIgnoresWhatItExtends", spec := "fnAppendFlagsIgnoresWhatItExtends", apart := false }
def FnAppendFlagsIgnoresWhatItExtendsSaid : Prop := fnAppendFlagsIgnoresWhatItExtendsRow.holds Try.pinned (OpenSpec.ofChange fnAppendFlagsIgnoresWhatItExtendsSpec)

/-- ITS FALSE NEIGHBOUR: 'it returns false'. Refute it at one input. -/
def fnAppendFlagsIgnoresWhatItExtendsWrong : ChangeSpec := { name := "fnAppendFlagsIgnoresWhatItExtends", fn := fun _ => fun
  | [d1, d2, d3, d4] => { results := [.lit (.bool false)], args := [d1, d2, d3, d4] }
  | _ => none }
def FnAppendFlagsIgnoresWhatItExtendsWrongFalsely : Prop := fnAppendFlagsIgnoresWhatItExtendsRow.holds Try.pinned (OpenSpec.ofChange fnAppendFlagsIgnoresWhatItExtendsWrong)

/-- 'zzlaws_internal_history_b1.FnAppendFlagsKeysEqualIffPrefixFlagsEqual': WHATEVER THE INPUT: true; the input reads as it did. -/
def fnAppendFlagsKeysEqualIffPrefixFlagsEqualSpec : ChangeSpec := { name := "fnAppendFlagsKeysEqualIffPrefixFlagsEqual", fn := fun _ => fun
  | [d1, d2, d3, d4, d5] => { results := [.lit (.bool true)], args := [d1, d2, d3, d4, d5] }
  | _ => none }
def fnAppendFlagsKeysEqualIffPrefixFlagsEqualRow : OpenClaim := { program := "qxb6602786a", sum := "7d0c5b6ac05a45751238fa6edb97dc4986237a7217162860e7686cb1b04ec6e7", func := "example.com/switchback/switchback/zzlaws_internal_history_b1.FnAppendFlagsKeysEqualIffPrefixFlagsEqual", spec := "fnAppendFlagsKeysEqualIffPrefixFlagsEqual", apart := false }
def FnAppendFlagsKeysEqualIffPrefixFlagsEqualSaid : Prop := fnAppendFlagsKeysEqualIffPrefixFlagsEqualRow.holds Try.pinned (OpenSpec.ofChange fnAppendFlagsKeysEqualIffPrefixFlagsEqualSpec)

/-- ITS FALSE NEIGHBOUR: 'it returns false'. Refute it at one input. -/
def fnAppendFlagsKeysEqualIffPrefixFlagsEqualWrong : ChangeSpec := { name := "fnAppendFlagsKeysEqualIffPrefixFlagsEqual", fn := fun _ => fun
  | [d1, d2, d3, d4, d5] => { results := [.lit (.bool false)], args := [d1, d2, d3, d4, d5] }
  | _ => none }
def FnAppendFlagsKeysEqualIffPrefixFlagsEqualWrongFalsely : Prop := fnAppendFlagsKeysEqualIffPrefixFlagsEqualRow.holds Try.pinned (OpenSpec.ofChange fnAppendFlagsKeysEqualIffPrefixFlagsEqualWrong)

end Rows
end Go.Proofs.Qxb6602786a
