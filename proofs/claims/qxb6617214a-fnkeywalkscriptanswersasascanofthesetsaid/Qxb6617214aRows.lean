/-
  No cell of these rows narrows 'for every input' (looked for: loops, veiled, ifaces, maps, wideKeys, modest, calm, conditions, laid).
  DERIVED. THE GIVEN ROWS OF THIS SEAT. 4 by the template 'for every input the law returns true; each argument reads behind the call as it read before'; 0 by the template 'total and deterministic' (their statements: Qxb6617214aTotals.lean).
  GIVEN WITH THE SEED: the statements are not yours to turn. If you find one false, say at which input.
  Laid BY PROGRAM, IN A SANDBOX (cutbox-rows.mjs): the forced cells as the released guide's own fill.sh prints them over the translation 165c67155d00c61f… (all of the seat's roots in one cut). By AI agents, Wed Nov 11 2026. No macro, syntax, notation, axiom, sorry.
-/
import Derived.Test.Qxb6617214aChecked
import GoSem.Claim
import GoSem.ClaimJoined
import GoSem.ClaimMapViews
import Derived.JoinedTies
import Derived.KernelRfl
namespace Go.Proofs.Qxb6617214a
/- THE CELL 'sum', in the pinned program and in every row, IS THE sha256 OF THE DUMP (.gsa) THAT Qxb6617214aProg.lean LOADS. Nothing in Lean hashes anything: it is a label: what it is worth is what the hold of that sum in a sandbox is worth. -/
noncomputable def Try.pinned : Pinned := { name := "qxb6617214a", sum := "165c67155d00c61f7451c96b1a5742b215cecf451208f6507a0df49de6cd77ae", checked := Try.checked }
namespace Rows
def none {H : Type} : Left H := { results := [], args := [] }

/-- 'zzlaws_root_b1.FnKeySetAddThenRemoveTakesOutJustThatKey': WHATEVER THE INPUT: true; the input reads as it did. -/
def fnKeySetAddThenRemoveTakesOutJustThatKeySpec : ChangeSpec := { name := "fnKeySetAddThenRemoveTakesOutJustThatKey", fn := fun _ => fun
  | [d1, d2, d3] => { results := [.lit (.bool true)], args := [d1, d2, d3] }
  | _ => none }
def fnKeySetAddThenRemoveTakesOutJustThatKeyRow : OpenClaim := { program := "qxb6617214a", sum := "165c67155d00c61f7451c96b1a5742b215cecf451208f6507a0df49de6cd77ae", func := "example.com/ledgerlock/ledgerlock/zzlaws_root_b1.FnKeySetAddThenRemoveTakesOutJustThatKey", spec := "fnKeySetAddThenRemoveTakesOutJustThatKey", inPlace := ["internal/bytealg.abigen_runtime_cmpstring", "slices.overlaps[string]", "slices.overlaps[[]string]"], unfollowed := true, recurses := true, apart := false }
def FnKeySetAddThenRemoveTakesOutJustThatKeySaid : Prop := fnKeySetAddThenRemoveTakesOutJustThatKeyRow.holds Try.pinned (OpenSpec.ofChange fnKeySetAddThenRemoveTakesOutJustThatKeySpec)

/-- ITS FALSE NEIGHBOUR: 'it returns false'. Refute it at one input. -/
def fnKeySetAddThenRemoveTakesOutJustThatKeyWrong : ChangeSpec := { name := "fnKeySetAddThenRemoveTakesOutJustThatKey", fn := fun _ => fun
  | [d1, d2, d3] => { results := [.lit (.bool false)], args := [d1, d2, d3] }
  | _ => none }
def FnKeySetAddThenRemoveTakesOutJustThatKeyWrongFalsely : Prop := fnKeySetAddThenRemoveTakesOutJustThatKeyRow.holds Try.pinned (OpenSpec.ofChange fnKeySetAddThenRemoveTakesOutJustThatKeyWrong)

/-- 'zzlaws_root_b1.FnKeySetAddInEitherOrderGivesTheSortedUnion': WHATEVER THE INPUT: true; the input reads as it did. -/
def fnKeySetAddInEitherOrderGivesTheSortedUnionSpec : ChangeSpec := { name := "fnKeySetAddInEitherOrderGivesTheSortedUnion", fn := fun _ => fun
  | [d1, d2, d3, d4] => { results := [.lit (.bool true)], args := [d1, d2, d3, d4] }
  | _ => none }
def fnKeySetAddInEitherOrderGivesTheSortedUnionRow : OpenClaim := { program := "qxb6617214a", sum := "165c67155d00c61f7451c96b1a5742b215cecf451208f6507a0df49de6cd77ae", func := "example.com/ledgerlock/ledgerlock/zzlaws_root_b1.FnKeySetAddInEitherOrderGivesTheSortedUnion", spec := "fnKeySetAddInEitherOrderGivesTheSortedUnion", inPlace := ["internal/bytealg.abigen_runtime_cmpstring", "slices.overlaps[string]", "slices.overlaps[[]string]"], unfollowed := true, recurses := true, apart := false }
def FnKeySetAddInEitherOrderGivesTheSortedUnionSaid : Prop := fnKeySetAddInEitherOrderGivesTheSortedUnionRow.holds Try.pinned (OpenSpec.ofChange fnKeySetAddInEitherOrderGivesTheSortedUnionSpec)

/-- ITS FALSE NEIGHBOUR: 'it returns false'. Refute it at one input. -/
def fnKeySetAddInEitherOrderGivesTheSortedUnionWrong : ChangeSpec := { name := "fnKeySetAddInEitherOrderGivesTheSortedUnion", fn := fun _ => fun
  | [d1, d2, d3, d4] => { results := [.lit (.bool false)], args := [d1, d2, d3, d4] }
  | _ => none }
def FnKeySetAddInEitherOrderGivesTheSortedUnionWrongFalsely : Prop := fnKeySetAddInEitherOrderGivesTheSortedUnionRow.holds Try.pinned (OpenSpec.ofChange fnKeySetAddInEitherOrderGivesTheSortedUnionWrong)

/-- 'zzlaws_root_b1.FnKeyWalkScriptAnswersAsAScanOfTheSet': WHATEVER THE INPUT: true; the input reads as it did. -/
def fnKeyWalkScriptAnswersAsAScanOfTheSetSpec : ChangeSpec := { name := "fnKeyWalkScriptAnswersAsAScanOfTheSet", fn := fun _ => fun
  | [d1, d2, d3, d4, d5] => { results := [.lit (.bool true)], args := [d1, d2, d3, d4, d5] }
  | _ => none }
def fnKeyWalkScriptAnswersAsAScanOfTheSetRow : OpenClaim := { program := "qxb6617214a", sum := "165c67155d00c61f7451c96b1a5742b215cecf451208f6507a0df49de6cd77ae", func := "example.com/ledgerlock/ledgerlock/zzlaws_root_b1.FnKeyWalkScriptAnswersAsAScanOfTheSet", spec := "fnKeyWalkScriptAnswersAsAScanOfTheSet", inPlace := ["internal/bytealg.abigen_runtime_cmpstring", "slices.overlaps[string]", "slices.overlaps[[]string]"], unfollowed := true, recurses := true, apart := false }
def FnKeyWalkScriptAnswersAsAScanOfTheSetSaid : Prop := fnKeyWalkScriptAnswersAsAScanOfTheSetRow.holds Try.pinned (OpenSpec.ofChange fnKeyWalkScriptAnswersAsAScanOfTheSetSpec)

/-- ITS FALSE NEIGHBOUR: 'it returns false'. Refute it at one input. -/
def fnKeyWalkScriptAnswersAsAScanOfTheSetWrong : ChangeSpec := { name := "fnKeyWalkScriptAnswersAsAScanOfTheSet", fn := fun _ => fun
  | [d1, d2, d3, d4, d5] => { results := [.lit (.bool false)], args := [d1, d2, d3, d4, d5] }
  | _ => none }
def FnKeyWalkScriptAnswersAsAScanOfTheSetWrongFalsely : Prop := fnKeyWalkScriptAnswersAsAScanOfTheSetRow.holds Try.pinned (OpenSpec.ofChange fnKeyWalkScriptAnswersAsAScanOfTheSetWrong)

/-- 'zzlaws_root_b1.FnKeyWalkFromAgreesWithSetFromAtAnyTrueState': WHATEVER THE INPUT: true; the input reads as it did. -/
def fnKeyWalkFromAgreesWithSetFromAtAnyTrueStateSpec : ChangeSpec := { name := "fnKeyWalkFromAgreesWithSetFromAtAnyTrueState", fn := fun _ => fun
  | [d1, d2, d3, d4, d5, d6, d7, d8, d9, d10, d11] => { results := [.lit (.bool true)], args := [d1, d2, d3, d4, d5, d6, d7, d8, d9, d10, d11] }
  | _ => none }
def fnKeyWalkFromAgreesWithSetFromAtAnyTrueStateRow : OpenClaim := { program := "qxb6617214a", sum := "165c67155d00c61f7451c96b1a5742b215cecf451208f6507a0df49de6cd77ae", func := "example.com/ledgerlock/ledgerlock/zzlaws_root_b1.FnKeyWalkFromAgreesWithSetFromAtAnyTrueState", spec := "fnKeyWalkFromAgreesWithSetFromAtAnyTrueState", inPlace := ["internal/bytealg.abigen_runtime_cmpstring"], unfollowed := true, recurses := true, apart := false }
def FnKeyWalkFromAgreesWithSetFromAtAnyTrueStateSaid : Prop := fnKeyWalkFromAgreesWithSetFromAtAnyTrueStateRow.holds Try.pinned (OpenSpec.ofChange fnKeyWalkFromAgreesWithSetFromAtAnyTrueStateSpec)

/-- ITS FALSE NEIGHBOUR: 'it returns false'. Refute it at one input. -/
def fnKeyWalkFromAgreesWithSetFromAtAnyTrueStateWrong : ChangeSpec := { name := "fnKeyWalkFromAgreesWithSetFromAtAnyTrueState", fn := fun _ => fun
  | [d1, d2, d3, d4, d5, d6, d7, d8, d9, d10, d11] => { results := [.lit (.bool false)], args := [d1, d2, d3, d4, d5, d6, d7, d8, d9, d10, d11] }
  | _ => none }
def FnKeyWalkFromAgreesWithSetFromAtAnyTrueStateWrongFalsely : Prop := fnKeyWalkFromAgreesWithSetFromAtAnyTrueStateRow.holds Try.pinned (OpenSpec.ofChange fnKeyWalkFromAgreesWithSetFromAtAnyTrueStateWrong)

end Rows
end Go.Proofs.Qxb6617214a
