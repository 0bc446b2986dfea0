/-
  No cell of these rows narrows 'for every input' (looked for: loops, veiled, ifaces, maps, wideKeys, modest, calm, conditions, laid).
  DERIVED. THE GIVEN ROWS OF THIS SEAT. 2 by the template 'for every input the law returns true; each argument reads behind the call as it read before'; 0 by the template 'total and deterministic' (their statements: Qxb6614825aTotals.lean).
  GIVEN WITH THE SEED: the statements are not yours to turn. If you find one false, say at which input.
  Laid BY PROGRAM, IN A SANDBOX (cutbox-rows.mjs): the forced cells as the released guide's own fill.sh prints them over the translation dae11fcc1f959f87… (all of the seat's roots in one cut). By AI agents, Wed Nov 11 2026. No macro, syntax, notation, axiom, sorry.
-/
import Derived.Test.Qxb6614825aChecked
import GoSem.Claim
import GoSem.ClaimJoined
import GoSem.ClaimMapViews
import Derived.JoinedTies
import Derived.KernelRfl
namespace Go.Proofs.Qxb6614825a
/- THE CELL 'sum', in the pinned program and in every row, IS THE sha256 OF THE DUMP (.gsa) THAT Qxb6614825aProg.lean LOADS. Nothing in Lean hashes anything: it is a label: what it is worth is what the hold of that sum in a sandbox is worth. -/
noncomputable def Try.pinned : Pinned := { name := "qxb6614825a", sum := "dae11fcc1f959f8730f2effb49049984e1fa984f5924967d347dac32dafd396b", checked := Try.checked }
namespace Rows
def none {H : Type} : Left H := { results := [], args := [] }

/-- 'zzlaws_provider_b1.FnAppendStringFramesReadBack': WHATEVER THE INPUT: true; the input reads as it did. -/
def fnAppendStringFramesReadBackSpec : ChangeSpec := { name := "fnAppendStringFramesReadBack", fn := fun _ => fun
  | [d1, d2, d3] => { results := [.lit (.bool true)], args := [d1, d2, d3] }
  | _ => none }
def fnAppendStringFramesReadBackRow : OpenClaim := { program := "qxb6614825a", sum := "dae11fcc1f959f8730f2effb49049984e1fa984f5924967d347dac32dafd396b", func := "example.com/claimsmith/claimsmith/zzlaws_provider_b1.FnAppendStringFramesReadBack", spec := "fnAppendStringFramesReadBack", apart := false }
def FnAppendStringFramesReadBackSaid : Prop := fnAppendStringFramesReadBackRow.holds Try.pinned (OpenSpec.ofChange fnAppendStringFramesReadBackSpec)

/-- ITS FALSE NEIGHBOUR: 'it returns false'. Refute it at one input. -/
def fnAppendStringFramesReadBackWrong : ChangeSpec := { name := "fnAppendStringFramesReadBack", fn := fun _ => fun
  | [d1, d2, d3] => { results := [.lit (.bool false)], args := [d1, d2, d3] }
  | _ => none }
def FnAppendStringFramesReadBackWrongFalsely : Prop := fnAppendStringFramesReadBackRow.holds Try.pinned (OpenSpec.ofChange fnAppendStringFramesReadBackWrong)

/-- 'zzlaws_provider_b1.FnAppendStringFramingIsUnambiguous': WHATEVER THE INPUT: true; the input reads as it did. -/
def fnAppendStringFramingIsUnambiguousSpec : ChangeSpec := { name := "fnAppendStringFramingIsUnambiguous", fn := fun _ => fun
  | [d1, d2, d3, d4, d5] => { results := [.lit (.bool true)], args := [d1, d2, d3, d4, d5] }
  | _ => none }
def fnAppendStringFramingIsUnambiguousRow : OpenClaim := { program := "qxb6614825a", sum := "dae11fcc1f959f8730f2effb49049984e1fa984f5924967d347dac32dafd396b", func := "example.com/claimsmith/claimsmith/zzlaws_provider_b1.FnAppendStringFramingIsUnambiguous", spec := "fnAppendStringFramingIsUnambiguous", apart := false }
def FnAppendStringFramingIsUnambiguousSaid : Prop := fnAppendStringFramingIsUnambiguousRow.holds Try.pinned (OpenSpec.ofChange fnAppendStringFramingIsUnambiguousSpec)

/-- ITS FALSE NEIGHBOUR: 'it returns false'. Refute it at one input. -/
def fnAppendStringFramingIsUnambiguousWrong : ChangeSpec := { name := "fnAppendStringFramingIsUnambiguous", fn := fun _ => fun
  | [d1, d2, d3, d4, d5] => { results := [.lit (.bool false)], args := [d1, d2, d3, d4, d5] }
  | _ => none }
def FnAppendStringFramingIsUnambiguousWrongFalsely : Prop := fnAppendStringFramingIsUnambiguousRow.holds Try.pinned (OpenSpec.ofChange fnAppendStringFramingIsUnambiguousWrong)

end Rows
end Go.Proofs.Qxb6614825a
