/-
  No cell of these rows narrows 'for every input' (looked for: loops, veiled, ifaces, maps, wideKeys, modest, calm, conditions, laid).
  DERIVED. THE GIVEN ROWS OF THIS SEAT. 2 by the template 'for every input the law returns true; each argument reads behind the call as it read before'; 0 by the template 'total and deterministic' (their statements: Qxb6617228aTotals.lean).
  GIVEN WITH THE SEED: the statements are not yours to turn. If you find one false, say at which input.
  Laid BY PROGRAM, IN A SANDBOX (cutbox-rows.mjs): the forced cells as the released guide's own fill.sh prints them over the translation 9d9434cdc34d1cb1… (all of the seat's roots in one cut). By AI agents, Wed Nov 11 2026. No macro, syntax, notation, axiom, sorry.
-/
import Derived.Test.Qxb6617228aChecked
import GoSem.Claim
import GoSem.ClaimJoined
import GoSem.ClaimMapViews
import Derived.JoinedTies
import Derived.KernelRfl
namespace Go.Proofs.Qxb6617228a
/- THE CELL 'sum', in the pinned program and in every row, IS THE sha256 OF THE DUMP (.gsa) THAT Qxb6617228aProg.lean LOADS. Nothing in Lean hashes anything: it is a label: what it is worth is what the hold of that sum in a sandbox is worth. -/
noncomputable def Try.pinned : Pinned := { name := "qxb6617228a", sum := "9d9434cdc34d1cb11dd5f7d2c01aed894bf670bdc1b89caf3d03cbbbd9c2f059", checked := Try.checked }
namespace Rows
def none {H : Type} : Left H := { results := [], args := [] }

/-- 'zzlaws_internal_decimal_b1.FnAllDigitsJoinAtAnyCut': WHATEVER THE INPUT: true; the input reads as it did. -/
def fnAllDigitsJoinAtAnyCutSpec : ChangeSpec := { name := "fnAllDigitsJoinAtAnyCut", fn := fun _ => fun
  | [d1, d2, d3] => { results := [.lit (.bool true)], args := [d1, d2, d3] }
  | _ => none }
def fnAllDigitsJoinAtAnyCutRow : OpenClaim := { program := "qxb6617228a", sum := "9d9434cdc34d1cb11dd5f7d2c01aed894bf670bdc1b89caf3d03cbbbd9c2f059", func := "example.com/armslength/armslength/zzlaws_internal_decimal_b1.FnAllDigitsJoinAtAnyCut", spec := "fnAllDigitsJoinAtAnyCut", apart := false }
def FnAllDigitsJoinAtAnyCutSaid : Prop := fnAllDigitsJoinAtAnyCutRow.holds Try.pinned (OpenSpec.ofChange fnAllDigitsJoinAtAnyCutSpec)

/-- ITS FALSE NEIGHBOUR: 'it returns false'. Refute it at one input. -/
def fnAllDigitsJoinAtAnyCutWrong : ChangeSpec := { name := "fnAllDigitsJoinAtAnyCut", fn := fun _ => fun
  | [d1, d2, d3] => { results := [.lit (.bool false)], args := [d1, d2, d3] }
  | _ => none }
def FnAllDigitsJoinAtAnyCutWrongFalsely : Prop := fnAllDigitsJoinAtAnyCutRow.holds Try.pinned (OpenSpec.ofChange fnAllDigitsJoinAtAnyCutWrong)

/-- 'zzlaws_internal_decimal_b1.FnAllDigitsByteByByte': WHATEVER THE INPUT: true; the input reads as it did. -/
def fnAllDigitsByteByByteSpec : ChangeSpec := { name := "fnAllDigitsByteByByte", fn := fun _ => fun
  | [d1, d2] => { results := [.lit (.bool true)], args := [d1, d2] }
  | _ => none }
def fnAllDigitsByteByByteRow : OpenClaim := { program := "qxb6617228a", sum := "9d9434cdc34d1cb11dd5f7d2c01aed894bf670bdc1b89caf3d03cbbbd9c2f059", func := "example.com/armslength/armslength/zzlaws_internal_decimal_b1.FnAllDigitsByteByByte", spec := "fnAllDigitsByteByByte", apart := false }
def FnAllDigitsByteByByteSaid : Prop := fnAllDigitsByteByByteRow.holds Try.pinned (OpenSpec.ofChange fnAllDigitsByteByByteSpec)

/-- ITS FALSE NEIGHBOUR: 'it returns false'. Refute it at one input. -/
def fnAllDigitsByteByByteWrong : ChangeSpec := { name := "fnAllDigitsByteByByte", fn := fun _ => fun
  | [d1, d2] => { results := [.lit (.bool false)], args := [d1, d2] }
  | _ => none }
def FnAllDigitsByteByByteWrongFalsely : Prop := fnAllDigitsByteByByteRow.holds Try.pinned (OpenSpec.ofChange fnAllDigitsByteByByteWrong)

end Rows
end Go.Proofs.Qxb6617228a
