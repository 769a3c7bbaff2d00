/-
  No cell of these rows narrows 'for every input' (looked for: loops, veiled, ifaces, maps, wideKeys, modest, calm, conditions, laid).
  DERIVED. THE GIVEN ROWS OF THIS SEAT. 2 by the template 'for every input the law returns true; each argument reads behind the call as it read before'; 0 by the template 'total and deterministic' (their statements: Qxb6604272aTotals.lean).
  GIVEN WITH THE SEED: the statements are not yours to turn. If you find one false, say at which input.
  Laid BY PROGRAM, IN A SANDBOX (cutbox-rows.mjs): the forced cells as the released guide's own fill.sh prints them over the translation c4873cdd10ab1ac1… (all of the seat's roots in one cut). By AI agents, Wed Nov 11 2026. No macro, syntax, notation, axiom, sorry.
-/
import Derived.Test.Qxb6604272aChecked
import GoSem.Claim
import GoSem.ClaimJoined
import GoSem.ClaimMapViews
import Derived.JoinedTies
import Derived.KernelRfl
namespace Go.Proofs.Qxb6604272a
/- THE CELL 'sum', in the pinned program and in every row, IS THE sha256 OF THE DUMP (.gsa) THAT Qxb6604272aProg.lean LOADS. Nothing in Lean hashes anything: it is a label: what it is worth is what the hold of that sum in a sandbox is worth. -/
noncomputable def Try.pinned : Pinned := { name := "qxb6604272a", sum := "c4873cdd10ab1ac137c3a98b61e44ede05ae6fbb2aedf50a260156251894a902", checked := Try.checked }
namespace Rows
def none {H : Type} : Left H := { results := [], args := [] }

/-- 'zzlaws_internal_ddl_b1.FnVersionLengthCaseTable': WHATEVER THE INPUT: true; the input reads as it did. -/
def fnVersionLengthCaseTableSpec : ChangeSpec := { name := "fnVersionLengthCaseTable", fn := fun _ => fun
  | [d] => { results := [.lit (.bool true)], args := [d] }
  | _ => none }
def fnVersionLengthCaseTableRow : OpenClaim := { program := "qxb6604272a", sum := "c4873cdd10ab1ac137c3a98b61e44ede05ae6fbb2aedf50a260156251894a902", func := "example.com/alterlens/alterlens/zzlaws_internal_ddl_b1.FnVersionLengthCaseTable", spec := "fnVersionLengthCaseTable", apart := false }
def FnVersionLengthCaseTableSaid : Prop := fnVersionLengthCaseTableRow.holds Try.pinned (OpenSpec.ofChange fnVersionLengthCaseTableSpec)

/-- ITS FALSE NEIGHBOUR: 'it returns false'. Refute it at one input. -/
def fnVersionLengthCaseTableWrong : ChangeSpec := { name := "fnVersionLengthCaseTable", fn := fun _ => fun
  | [d] => { results := [.lit (.bool false)], args := [d] }
  | _ => none }
def FnVersionLengthCaseTableWrongFalsely : Prop := fnVersionLengthCaseTableRow.holds Try.pinned (OpenSpec.ofChange fnVersionLengthCaseTableWrong)

/-- 'zzlaws_internal_ddl_b1.FnSpellMatchesLastEntryTable': WHATEVER THE INPUT: true; the input reads as it did. -/
def fnSpellMatchesLastEntryTableSpec : ChangeSpec := { name := "fnSpellMatchesLastEntryTable", fn := fun _ => fun
  | [d1, d2, d3, d4, d5, d6, d7, d8, d9, d10, d11, d12] => { results := [.lit (.bool true)], args := [d1, d2, d3, d4, d5, d6, d7, d8, d9, d10, d11, d12] }
  | _ => none }
def fnSpellMatchesLastEntryTableRow : OpenClaim := { program := "qxb6604272a", sum := "c4873cdd10ab1ac137c3a98b61e44ede05ae6fbb2aedf50a260156251894a902", func := "example.com/alterlens/alterlens/zzlaws_internal_ddl_b1.FnSpellMatchesLastEntryTable", spec := "fnSpellMatchesLastEntryTable", apart := false }
def FnSpellMatchesLastEntryTableSaid : Prop := fnSpellMatchesLastEntryTableRow.holds Try.pinned (OpenSpec.ofChange fnSpellMatchesLastEntryTableSpec)

/-- ITS FALSE NEIGHBOUR: 'it returns false'. Refute it at one input. -/
def fnSpellMatchesLastEntryTableWrong : ChangeSpec := { name := "fnSpellMatchesLastEntryTable", fn := fun _ => fun
  | [d1, d2, d3, d4, d5, d6, d7, d8, d9, d10, d11, d12] => { results := [.lit (.bool false)], args := [d1, d2, d3, d4, d5, d6, d7, d8, d9, d10, d11, d12] }
  | _ => none }
def FnSpellMatchesLastEntryTableWrongFalsely : Prop := fnSpellMatchesLastEntryTableRow.holds Try.pinned (OpenSpec.ofChange fnSpellMatchesLastEntryTableWrong)

end Rows
end Go.Proofs.Qxb6604272a
