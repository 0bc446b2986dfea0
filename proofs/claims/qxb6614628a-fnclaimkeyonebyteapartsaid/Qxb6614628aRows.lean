/-
  No cell of these rows narrows 'for every input' (looked for: loops, veiled, ifaces, maps, wideKeys, modest, calm, conditions, laid).
  DERIVED. THE GIVEN ROWS OF THIS SEAT. 2 by the template 'for every input the law returns true; each argument reads behind the call as it read before'; 0 by the template 'total and deterministic' (their statements: Qxb6614628aTotals.lean).
  GIVEN WITH THE SEED: the statements are not yours to turn. If you find one false, say at which input.
  Laid BY PROGRAM, IN A SANDBOX (cutbox-rows.mjs): the forced cells as the released guide's own fill.sh prints them over the translation 76ba9299ae7fb7d8… (all of the seat's roots in one cut). By AI agents, Wed Nov 11 2026. No macro, syntax, notation, axiom, sorry.
-/
import Derived.Test.Qxb6614628aChecked
import GoSem.Claim
import GoSem.ClaimJoined
import GoSem.ClaimMapViews
import Derived.JoinedTies
import Derived.KernelRfl
namespace Go.Proofs.Qxb6614628a
/- THE CELL 'sum', in the pinned program and in every row, IS THE sha256 OF THE DUMP (.gsa) THAT Qxb6614628aProg.lean LOADS. Nothing in Lean hashes anything: it is a label: what it is worth is what the hold of that sum in a sandbox is worth. -/
noncomputable def Try.pinned : Pinned := { name := "qxb6614628a", sum := "76ba9299ae7fb7d87a4d7ac479cb8b64f464884108c41731631c7c14fb73bd5a", checked := Try.checked }
namespace Rows
def none {H : Type} : Left H := { results := [], args := [] }

/-- 'zzlaws_internal_postgres_pgtarget_b1.FnAfterCountsEarlierRuns': WHATEVER THE INPUT: true; the input reads as it did. -/
def fnAfterCountsEarlierRunsSpec : ChangeSpec := { name := "fnAfterCountsEarlierRuns", fn := fun _ => fun
  | [d] => { results := [.lit (.bool true)], args := [d] }
  | _ => none }
def fnAfterCountsEarlierRunsRow : OpenClaim := { program := "qxb6614628a", sum := "76ba9299ae7fb7d87a4d7ac479cb8b64f464884108c41731631c7c14fb73bd5a", func := "example.com/seamline/seamline/zzlaws_internal_postgres_pgtarget_b1.FnAfterCountsEarlierRuns", spec := "fnAfterCountsEarlierRuns", apart := false }
def FnAfterCountsEarlierRunsSaid : Prop := fnAfterCountsEarlierRunsRow.holds Try.pinned (OpenSpec.ofChange fnAfterCountsEarlierRunsSpec)

/-- ITS FALSE NEIGHBOUR: 'it returns false'. Refute it at one input. -/
def fnAfterCountsEarlierRunsWrong : ChangeSpec := { name := "fnAfterCountsEarlierRuns", fn := fun _ => fun
  | [d] => { results := [.lit (.bool false)], args := [d] }
  | _ => none }
def FnAfterCountsEarlierRunsWrongFalsely : Prop := fnAfterCountsEarlierRunsRow.holds Try.pinned (OpenSpec.ofChange fnAfterCountsEarlierRunsWrong)

/-- 'zzlaws_internal_postgres_pgtarget_b1.FnClaimKeyOneByteApart': WHATEVER THE INPUT: true; the input reads as it did. -/
def fnClaimKeyOneByteApartSpec : ChangeSpec := { name := "fnClaimKeyOneByteApart", fn := fun _ => fun
  | [d1, d2, d3] => { results := [.lit (.bool true)], args := [d1, d2, d3] }
  | _ => none }
def fnClaimKeyOneByteApartRow : OpenClaim := { program := "qxb6614628a", sum := "76ba9299ae7fb7d87a4d7ac479cb8b64f464884108c41731631c7c14fb73bd5a", func := "example.com/seamline/seamline/zzlaws_internal_postgres_pgtarget_b1.FnClaimKeyOneByteApart", spec := "fnClaimKeyOneByteApart", unfollowed := true, recurses := true, apart := false }
def FnClaimKeyOneByteApartSaid : Prop := fnClaimKeyOneByteApartRow.holds Try.pinned (OpenSpec.ofChange fnClaimKeyOneByteApartSpec)

/-- ITS FALSE NEIGHBOUR: 'it returns false'. Refute it at one input. -/
def fnClaimKeyOneByteApartWrong : ChangeSpec := { name := "fnClaimKeyOneByteApart", fn := fun _ => fun
  | [d1, d2, d3] => { results := [.lit (.bool false)], args := [d1, d2, d3] }
  | _ => none }
def FnClaimKeyOneByteApartWrongFalsely : Prop := fnClaimKeyOneByteApartRow.holds Try.pinned (OpenSpec.ofChange fnClaimKeyOneByteApartWrong)

end Rows
end Go.Proofs.Qxb6614628a
