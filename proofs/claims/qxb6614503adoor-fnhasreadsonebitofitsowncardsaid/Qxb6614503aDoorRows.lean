/-
  NARROWER THAN 'FOR EVERY INPUT', by the rows' own cells (each row's printed sentence says how): FnHasReadsOneBitOfItsOwn: laid.
  DERIVED. THE GIVEN ROWS OF THIS SEAT. 1 by the template 'for every input the law returns true; each argument reads behind the call as it read before'; 0 by the template 'total and deterministic' (their statements: Qxb6614503aDoorTotals.lean).
  GIVEN WITH THE SEED: the statements are not yours to turn. If you find one false, say at which input.
  Laid BY PROGRAM, IN A SANDBOX (cutbox-rows.mjs): the forced cells as the released guide's own fill.sh prints them over the translation 706505f903e88204… (all of the seat's roots in one cut). By AI agents, Wed Nov 11 2026. No macro, syntax, notation, axiom, sorry.
-/
import Derived.Test.Qxb6614503aDoorChecked
import GoSem.Claim
import GoSem.ClaimJoined
import GoSem.ClaimMapViews
import Derived.JoinedTies
import Derived.KernelRfl
namespace Go.Proofs.Qxb6614503aDoor
/- THE CELL 'sum', in the pinned program and in every row, IS THE sha256 OF THE DUMP (.gsa) THAT Qxb6614503aDoorProg.lean LOADS. Nothing in Lean hashes anything: it is a label: what it is worth is what the hold of that sum in a sandbox is worth. -/
noncomputable def Tryd.pinned : Pinned := { name := "qxb6614503adoor", sum := "706505f903e88204338435246214ddbae2d3d20fa4231410824c2d8554bb0e10", checked := Tryd.checked }
namespace Rows
def none {H : Type} : Left H := { results := [], args := [] }

/- WHAT THE LISTED PACKAGE-LEVEL VARIABLES READ AS WHEN THE CALL BEGINS. Each datum BY PROGRAM (the guide's laid-datum.mjs) off the statement by which the dump's own 'gosem.cut.vars' lays the variable. In a bare row this is a premise. The card (Qxb6614503aDoorCards.lean) ties it to the program's text. -/
def laid_example_com_lens_on_exports_lens_on_exports_internal_access_secWords {H : Type} : DataW H := .agg [.lit (.string [110, 111, 110, 101]), .lit (.string [107, 114, 98, 53]), .lit (.string [107, 114, 98, 53, 105]), .lit (.string [107, 114, 98, 53, 112]), .lit (.string [110, 116, 108, 109]), .lit (.string [115, 121, 115])]
def laid_example_com_lens_on_exports_lens_on_exports_internal_ontap_secWords {H : Type} : DataW H := .slice [.lit (.string [97, 110, 121]), .lit (.string [110, 111, 110, 101]), .lit (.string [110, 101, 118, 101, 114]), .lit (.string [107, 114, 98, 53]), .lit (.string [107, 114, 98, 53, 105]), .lit (.string [107, 114, 98, 53, 112]), .lit (.string [110, 116, 108, 109]), .lit (.string [115, 121, 115])] []

/-- 'zzlaws_internal_ontap_b1.FnHasReadsOneBitOfItsOwn': WHATEVER THE INPUT: true; the input reads as it did. -/
def fnHasReadsOneBitOfItsOwnSpec : ChangeSpec := { name := "fnHasReadsOneBitOfItsOwn", vars := ["example.com/lens-on-exports/lens-on-exports/internal/ontap.secWords", "example.com/lens-on-exports/lens-on-exports/internal/access.secWords"], fn := fun _ => fun
  | [d1, d2, d3, g1, g2] => { results := [.lit (.bool true)], args := [d1, d2, d3], vars := [g1, g2] }
  | _ => none }
def fnHasReadsOneBitOfItsOwnRow : OpenClaim := { program := "qxb6614503adoor", sum := "706505f903e88204338435246214ddbae2d3d20fa4231410824c2d8554bb0e10", func := "example.com/lens-on-exports/lens-on-exports/zzlaws_internal_ontap_b1.FnHasReadsOneBitOfItsOwn", spec := "fnHasReadsOneBitOfItsOwn", named := ["example.com/lens-on-exports/lens-on-exports/internal/ontap.secWords", "example.com/lens-on-exports/lens-on-exports/internal/access.secWords"], apart := false, laid := [("example.com/lens-on-exports/lens-on-exports/internal/access.secWords", laid_example_com_lens_on_exports_lens_on_exports_internal_access_secWords), ("example.com/lens-on-exports/lens-on-exports/internal/ontap.secWords", laid_example_com_lens_on_exports_lens_on_exports_internal_ontap_secWords)] }
def FnHasReadsOneBitOfItsOwnSaid : Prop := fnHasReadsOneBitOfItsOwnRow.holds Tryd.pinned (OpenSpec.ofChange fnHasReadsOneBitOfItsOwnSpec)

/-- ITS FALSE NEIGHBOUR: 'it returns false'. Refute it at one input. -/
def fnHasReadsOneBitOfItsOwnWrong : ChangeSpec := { name := "fnHasReadsOneBitOfItsOwn", vars := ["example.com/lens-on-exports/lens-on-exports/internal/ontap.secWords", "example.com/lens-on-exports/lens-on-exports/internal/access.secWords"], fn := fun _ => fun
  | [d1, d2, d3, g1, g2] => { results := [.lit (.bool false)], args := [d1, d2, d3], vars := [g1, g2] }
  | _ => none }
def FnHasReadsOneBitOfItsOwnWrongFalsely : Prop := fnHasReadsOneBitOfItsOwnRow.holds Tryd.pinned (OpenSpec.ofChange fnHasReadsOneBitOfItsOwnWrong)

end Rows
end Go.Proofs.Qxb6614503aDoor
