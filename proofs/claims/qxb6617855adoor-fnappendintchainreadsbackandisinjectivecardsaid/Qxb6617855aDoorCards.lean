/-
  DERIVED. GIVEN WITH THE SEED: THE CARDS: each row of Qxb6617855aDoorRows.lean that lists a variable, with what it lists TIED to the program's text (the seventh form; the later family's looks); each row that meets fmt, with fmt's text TOLD by the authors' own Lean function (tested against real Go, not proved from fmt's source: count such statements apart). THE CARD IS WHAT COUNTS. Prove the row's statement (the work); the ties are given (Qxb6617855aDoorTie.lean); close each card by the builder's one call (the guide's Derived/Test/ToyasCard.lean, 'card_holds'). Laid BY PROGRAM, IN A SANDBOX (cutbox-door.mjs). By AI agents, Wed Nov 11 2026. No macro, syntax, notation, axiom, sorry.
-/
import Derived.Test.Qxb6617855aDoorRows
import GoSem.ClaimSeven
namespace Go.Proofs.Qxb6617855aDoor
namespace Rows

/-- THE TIED CARD OF 'zzlaws_internal_bencode_b1.FnAppendIntIsBPlusCanonicalDecimal'. -/
def fnAppendIntIsBPlusCanonicalDecimalCard : Claim7 := { stood := { row := fnAppendIntIsBPlusCanonicalDecimalRow, standIns := [], harness := (true, "fbbcaf9318e6371c08f4a4489d5a374b9f7b3aa57bef2ffeef10da3b51f95cbf"), looks := false }, kinds := [], alts := [], laidByText := true, laidKinds := [.data, .data, .data], laidTests := true, laidLooks := .later }
def FnAppendIntIsBPlusCanonicalDecimalCardSaid : Prop := Claim7.holds Tryd.pinned (.plain (OpenSpec.ofChange fnAppendIntIsBPlusCanonicalDecimalSpec)) fnAppendIntIsBPlusCanonicalDecimalCard

/-- THE TIED CARD OF 'zzlaws_internal_bencode_b1.FnAppendIntChainReadsBackAndIsInjective'. -/
def fnAppendIntChainReadsBackAndIsInjectiveCard : Claim7 := { stood := { row := fnAppendIntChainReadsBackAndIsInjectiveRow, standIns := [], harness := (true, "fbbcaf9318e6371c08f4a4489d5a374b9f7b3aa57bef2ffeef10da3b51f95cbf"), looks := false }, kinds := [], alts := [], laidByText := true, laidKinds := [.data, .data, .data], laidTests := true, laidLooks := .later }
def FnAppendIntChainReadsBackAndIsInjectiveCardSaid : Prop := Claim7.holds Tryd.pinned (.plain (OpenSpec.ofChange fnAppendIntChainReadsBackAndIsInjectiveSpec)) fnAppendIntChainReadsBackAndIsInjectiveCard
end Rows
end Go.Proofs.Qxb6617855aDoor
