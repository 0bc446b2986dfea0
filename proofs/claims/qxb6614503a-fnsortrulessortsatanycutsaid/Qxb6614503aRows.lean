/-
  No cell of these rows narrows 'for every input' (looked for: loops, veiled, ifaces, maps, wideKeys, modest, calm, conditions, laid).
  DERIVED. THE GIVEN ROWS OF THIS SEAT. 2 by the template 'for every input the law returns true; each argument reads behind the call as it read before'; 0 by the template 'total and deterministic' (their statements: Qxb6614503aTotals.lean).
  GIVEN WITH THE SEED: the statements are not yours to turn. If you find one false, say at which input.
  Laid BY PROGRAM, IN A SANDBOX (cutbox-rows.mjs): the forced cells as the released guide's own fill.sh prints them over the translation 9df09880b930b6ca… (all of the seat's roots in one cut). By AI agents, Wed Nov 11 2026. No macro, syntax, notation, axiom, sorry.
-/
import Derived.Test.Qxb6614503aChecked
import GoSem.Claim
import GoSem.ClaimJoined
import GoSem.ClaimMapViews
import Derived.JoinedTies
import Derived.KernelRfl
namespace Go.Proofs.Qxb6614503a
/- THE CELL 'sum', in the pinned program and in every row, IS THE sha256 OF THE DUMP (.gsa) THAT Qxb6614503aProg.lean LOADS. Nothing in Lean hashes anything: it is a label: what it is worth is what the hold of that sum in a sandbox is worth. -/
noncomputable def Try.pinned : Pinned := { name := "qxb6614503a", sum := "9df09880b930b6ca1d440b1ab604fbc9a6ffd3740b8f695e2433d8715b620239", checked := Try.checked }
namespace Rows
def none {H : Type} : Left H := { results := [], args := [] }

/-- 'zzlaws_internal_ontap_b1.FnSortRulesSortsAtAnyCut': WHATEVER THE INPUT: true; the input reads as it did. -/
def fnSortRulesSortsAtAnyCutSpec : ChangeSpec := { name := "fnSortRulesSortsAtAnyCut", fn := fun _ => fun
  | [d1, d2] => { results := [.lit (.bool true)], args := [d1, d2] }
  | _ => none }
def fnSortRulesSortsAtAnyCutRow : OpenClaim := { program := "qxb6614503a", sum := "9df09880b930b6ca1d440b1ab604fbc9a6ffd3740b8f695e2433d8715b620239", func := "example.com/lens-on-exports/lens-on-exports/zzlaws_internal_ontap_b1.FnSortRulesSortsAtAnyCut", spec := "fnSortRulesSortsAtAnyCut", unfollowed := true, recurses := true, apart := false }
def FnSortRulesSortsAtAnyCutSaid : Prop := fnSortRulesSortsAtAnyCutRow.holds Try.pinned (OpenSpec.ofChange fnSortRulesSortsAtAnyCutSpec)

/-- ITS FALSE NEIGHBOUR: 'it returns false'. Refute it at one input. -/
def fnSortRulesSortsAtAnyCutWrong : ChangeSpec := { name := "fnSortRulesSortsAtAnyCut", fn := fun _ => fun
  | [d1, d2] => { results := [.lit (.bool false)], args := [d1, d2] }
  | _ => none }
def FnSortRulesSortsAtAnyCutWrongFalsely : Prop := fnSortRulesSortsAtAnyCutRow.holds Try.pinned (OpenSpec.ofChange fnSortRulesSortsAtAnyCutWrong)

/-- 'zzlaws_internal_ontap_b1.FnSortRulesOrderFreeAndSteady': WHATEVER THE INPUT: true; the input reads as it did. -/
def fnSortRulesOrderFreeAndSteadySpec : ChangeSpec := { name := "fnSortRulesOrderFreeAndSteady", fn := fun _ => fun
  | [d] => { results := [.lit (.bool true)], args := [d] }
  | _ => none }
def fnSortRulesOrderFreeAndSteadyRow : OpenClaim := { program := "qxb6614503a", sum := "9df09880b930b6ca1d440b1ab604fbc9a6ffd3740b8f695e2433d8715b620239", func := "example.com/lens-on-exports/lens-on-exports/zzlaws_internal_ontap_b1.FnSortRulesOrderFreeAndSteady", spec := "fnSortRulesOrderFreeAndSteady", unfollowed := true, recurses := true, apart := false }
def FnSortRulesOrderFreeAndSteadySaid : Prop := fnSortRulesOrderFreeAndSteadyRow.holds Try.pinned (OpenSpec.ofChange fnSortRulesOrderFreeAndSteadySpec)

/-- ITS FALSE NEIGHBOUR: 'it returns false'. Refute it at one input. -/
def fnSortRulesOrderFreeAndSteadyWrong : ChangeSpec := { name := "fnSortRulesOrderFreeAndSteady", fn := fun _ => fun
  | [d] => { results := [.lit (.bool false)], args := [d] }
  | _ => none }
def FnSortRulesOrderFreeAndSteadyWrongFalsely : Prop := fnSortRulesOrderFreeAndSteadyRow.holds Try.pinned (OpenSpec.ofChange fnSortRulesOrderFreeAndSteadyWrong)

end Rows
end Go.Proofs.Qxb6614503a
