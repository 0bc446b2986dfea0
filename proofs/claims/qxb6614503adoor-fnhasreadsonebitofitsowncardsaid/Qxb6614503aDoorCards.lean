/-
  DERIVED. GIVEN WITH THE SEED: THE CARDS: each row of Qxb6614503aDoorRows.lean that lists a variable, with what it lists TIED to the program's text (the seventh form; the later family's looks); each row that meets fmt, with fmt's text TOLD by the authors' own Lean function (tested against real Go, not proved from fmt's source: count such statements apart). THE CARD IS WHAT COUNTS. Prove the row's statement (the work); the ties are given (Qxb6614503aDoorTie.lean); close each card by the builder's one call (the guide's Derived/Test/ToyasCard.lean, 'card_holds'). Laid BY PROGRAM, IN A SANDBOX (cutbox-door.mjs). By AI agents, Wed Nov 11 2026. No macro, syntax, notation, axiom, sorry.
-/
import Derived.Test.Qxb6614503aDoorRows
import GoSem.ClaimSeven
namespace Go.Proofs.Qxb6614503aDoor
namespace Rows

/-- THE TIED CARD OF 'zzlaws_internal_ontap_b1.FnHasReadsOneBitOfItsOwn'. -/
def fnHasReadsOneBitOfItsOwnCard : Claim7 := { stood := { row := fnHasReadsOneBitOfItsOwnRow, standIns := [], harness := (true, "36a0ea33a21e901cd7baab8a1e118507539ae46d214f47406dd403d72a5e964c"), looks := false }, kinds := [], alts := [], laidByText := true, laidKinds := [.widerDeep, .widerDeep], laidTests := true, laidLooks := .later }
def FnHasReadsOneBitOfItsOwnCardSaid : Prop := Claim7.holds Tryd.pinned (.plain (OpenSpec.ofChange fnHasReadsOneBitOfItsOwnSpec)) fnHasReadsOneBitOfItsOwnCard
end Rows
end Go.Proofs.Qxb6614503aDoor
