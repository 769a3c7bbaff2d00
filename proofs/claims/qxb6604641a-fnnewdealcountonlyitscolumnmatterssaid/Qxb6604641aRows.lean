/-
  No cell of these rows narrows 'for every input' (looked for: loops, veiled, ifaces, maps, wideKeys, modest, calm, conditions, laid).
  DERIVED. THE GIVEN ROWS OF THIS SEAT. 1 by the template 'for every input the law returns true; each argument reads behind the call as it read before'; 0 by the template 'total and deterministic' (their statements: Qxb6604641aTotals.lean).
  GIVEN WITH THE SEED: the statements are not yours to turn. If you find one false, say at which input.
  Laid BY PROGRAM, IN A SANDBOX (cutbox-rows.mjs): the forced cells as the released guide's own fill.sh prints them over the translation ba7e5b8b4d65f6a1… (all of the seat's roots in one cut). By AI agents, Wed Nov 11 2026. No macro, syntax, notation, axiom, sorry.
-/
import Derived.Test.Qxb6604641aChecked
import GoSem.Claim
import GoSem.ClaimJoined
import GoSem.ClaimMapViews
import Derived.JoinedTies
import Derived.KernelRfl
namespace Go.Proofs.Qxb6604641a
/- THE CELL 'sum', in the pinned program and in every row, IS THE sha256 OF THE DUMP (.gsa) THAT Qxb6604641aProg.lean LOADS. Nothing in Lean hashes anything: it is a label: what it is worth is what the hold of that sum in a sandbox is worth. -/
noncomputable def Try.pinned : Pinned := { name := "qxb6604641a", sum := "ba7e5b8b4d65f6a1abd4d90fb0ceb4ad731086c108f3c719cb9a4cec7cfd08b2", checked := Try.checked }
namespace Rows
def none {H : Type} : Left H := { results := [], args := [] }

/-- 'zzlaws_root_b1.FnNewDealCountOnlyItsColumnMatters': WHATEVER THE INPUT: true; the input reads as it did. -/
def fnNewDealCountOnlyItsColumnMattersSpec : ChangeSpec := { name := "fnNewDealCountOnlyItsColumnMatters", fn := fun _ => fun
  | [d1, d2, d3] => { results := [.lit (.bool true)], args := [d1, d2, d3] }
  | _ => none }
def fnNewDealCountOnlyItsColumnMattersRow : OpenClaim := { program := "qxb6604641a", sum := "ba7e5b8b4d65f6a1abd4d90fb0ceb4ad731086c108f3c719cb9a4cec7cfd08b2", func := "example.com/gavelpoint/gavelpoint/zzlaws_root_b1.FnNewDealCountOnlyItsColumnMatters", spec := "fnNewDealCountOnlyItsColumnMatters", apart := false }
def FnNewDealCountOnlyItsColumnMattersSaid : Prop := fnNewDealCountOnlyItsColumnMattersRow.holds Try.pinned (OpenSpec.ofChange fnNewDealCountOnlyItsColumnMattersSpec)

/-- ITS FALSE NEIGHBOUR: 'it returns false'. Refute it at one input. -/
def fnNewDealCountOnlyItsColumnMattersWrong : ChangeSpec := { name := "fnNewDealCountOnlyItsColumnMatters", fn := fun _ => fun
  | [d1, d2, d3] => { results := [.lit (.bool false)], args := [d1, d2, d3] }
  | _ => none }
def FnNewDealCountOnlyItsColumnMattersWrongFalsely : Prop := fnNewDealCountOnlyItsColumnMattersRow.holds Try.pinned (OpenSpec.ofChange fnNewDealCountOnlyItsColumnMattersWrong)

end Rows
end Go.Proofs.Qxb6604641a
