/-
  No cell of these rows narrows 'for every input' (looked for: loops, veiled, ifaces, maps, wideKeys, modest, calm, conditions, laid).
  DERIVED. THE GIVEN ROWS OF THIS SEAT. 4 by the template 'for every input the law returns true; each argument reads behind the call as it read before'; 0 by the template 'total and deterministic' (their statements: Qxb6604644aTotals.lean).
  GIVEN WITH THE SEED: the statements are not yours to turn. If you find one false, say at which input.
  Laid BY PROGRAM, IN A SANDBOX (cutbox-rows.mjs): the forced cells as the released guide's own fill.sh prints them over the translation 512e5c28a0dc37a4… (all of the seat's roots in one cut). By AI agents, Wed Nov 11 2026. No macro, syntax, notation, axiom, sorry.
-/
import Derived.Test.Qxb6604644aChecked
import GoSem.Claim
import GoSem.ClaimJoined
import GoSem.ClaimMapViews
import Derived.JoinedTies
import Derived.KernelRfl
namespace Go.Proofs.Qxb6604644a
/- THE CELL 'sum', in the pinned program and in every row, IS THE sha256 OF THE DUMP (.gsa) THAT Qxb6604644aProg.lean LOADS. Nothing in Lean hashes anything: it is a label: what it is worth is what the hold of that sum in a sandbox is worth. -/
noncomputable def Try.pinned : Pinned := { name := "qxb6604644a", sum := "512e5c28a0dc37a42a72432827211e787ca6651f9f3cd938cb8ee38c00480c2b", checked := Try.checked }
namespace Rows
def none {H : Type} : Left H := { results := [], args := [] }

/-- 'zzlaws_scrub_b1.FnBytesWhereMembersExactly': WHATEVER THE INPUT: true; the input reads as it did. -/
def fnBytesWhereMembersExactlySpec : ChangeSpec := { name := "fnBytesWhereMembersExactly", fn := fun _ => fun
  | [d] => { results := [.lit (.bool true)], args := [d] }
  | _ => none }
def fnBytesWhereMembersExactlyRow : OpenClaim := { program := "qxb6604644a", sum := "512e5c28a0dc37a42a72432827211e787ca6651f9f3cd938cb8ee38c00480c2b", func := "example.com/veilbroker/veilbroker/zzlaws_scrub_b1.FnBytesWhereMembersExactly", spec := "fnBytesWhereMembersExactly", unfollowed := true, recurses := true, apart := false }
def FnBytesWhereMembersExactlySaid : Prop := fnBytesWhereMembersExactlyRow.holds Try.pinned (OpenSpec.ofChange fnBytesWhereMembersExactlySpec)

/-- ITS FALSE NEIGHBOUR: 'it returns false'. Refute it at one input. -/
def fnBytesWhereMembersExactlyWrong : ChangeSpec := { name := "fnBytesWhereMembersExactly", fn := fun _ => fun
  | [d] => { results := [.lit (.bool false)], args := [d] }
  | _ => none }
def FnBytesWhereMembersExactlyWrongFalsely : Prop := fnBytesWhereMembersExactlyRow.holds Try.pinned (OpenSpec.ofChange fnBytesWhereMembersExactlyWrong)

/-- 'zzlaws_scrub_b1.FnBytesWhereKeepsOrAndNot': WHATEVER THE INPUT: true; the input reads as it did. -/
def fnBytesWhereKeepsOrAndNotSpec : ChangeSpec := { name := "fnBytesWhereKeepsOrAndNot", fn := fun _ => fun
  | [d1, d2] => { results := [.lit (.bool true)], args := [d1, d2] }
  | _ => none }
def fnBytesWhereKeepsOrAndNotRow : OpenClaim := { program := "qxb6604644a", sum := "512e5c28a0dc37a42a72432827211e787ca6651f9f3cd938cb8ee38c00480c2b", func := "example.com/veilbroker/veilbroker/zzlaws_scrub_b1.FnBytesWhereKeepsOrAndNot", spec := "fnBytesWhereKeepsOrAndNot", unfollowed := true, recurses := true, apart := false }
def FnBytesWhereKeepsOrAndNotSaid : Prop := fnBytesWhereKeepsOrAndNotRow.holds Try.pinned (OpenSpec.ofChange fnBytesWhereKeepsOrAndNotSpec)

/-- ITS FALSE NEIGHBOUR: 'it returns false'. Refute it at one input. -/
def fnBytesWhereKeepsOrAndNotWrong : ChangeSpec := { name := "fnBytesWhereKeepsOrAndNot", fn := fun _ => fun
  | [d1, d2] => { results := [.lit (.bool false)], args := [d1, d2] }
  | _ => none }
def FnBytesWhereKeepsOrAndNotWrongFalsely : Prop := fnBytesWhereKeepsOrAndNotRow.holds Try.pinned (OpenSpec.ofChange fnBytesWhereKeepsOrAndNotWrong)

/-- 'zzlaws_scrub_b1.FnAppendCodeUnitsExact': WHATEVER THE INPUT: true; the input reads as it did. -/
def fnAppendCodeUnitsExactSpec : ChangeSpec := { name := "fnAppendCodeUnitsExact", fn := fun _ => fun
  | [d1, d2, d3, d4] => { results := [.lit (.bool true)], args := [d1, d2, d3, d4] }
  | _ => none }
def fnAppendCodeUnitsExactRow : OpenClaim := { program := "qxb6604644a", sum := "512e5c28a0dc37a42a72432827211e787ca6651f9f3cd938cb8ee38c00480c2b", func := "example.com/veilbroker/veilbroker/zzlaws_scrub_b1.FnAppendCodeUnitsExact", spec := "fnAppendCodeUnitsExact", recurses := true, apart := false }
def FnAppendCodeUnitsExactSaid : Prop := fnAppendCodeUnitsExactRow.holds Try.pinned (OpenSpec.ofChange fnAppendCodeUnitsExactSpec)

/-- ITS FALSE NEIGHBOUR: 'it returns false'. Refute it at one input. -/
def fnAppendCodeUnitsExactWrong : ChangeSpec := { name := "fnAppendCodeUnitsExact", fn := fun _ => fun
  | [d1, d2, d3, d4] => { results := [.lit (.bool false)], args := [d1, d2, d3, d4] }
  | _ => none }
def FnAppendCodeUnitsExactWrongFalsely : Prop := fnAppendCodeUnitsExactRow.holds Try.pinned (OpenSpec.ofChange fnAppendCodeUnitsExactWrong)

/-- 'zzlaws_scrub_b1.FnAppendCodeUnitsDecodesBack': WHATEVER THE INPUT: true; the input reads as it did. -/
def fnAppendCodeUnitsDecodesBackSpec : ChangeSpec := { name := "fnAppendCodeUnitsDecodesBack", fn := fun _ => fun
  | [d1, d2, d3, d4] => { results := [.lit (.bool true)], args := [d1, d2, d3, d4] }
  | _ => none }
def fnAppendCodeUnitsDecodesBackRow : OpenClaim := { program := "qxb6604644a", sum := "512e5c28a0dc37a42a72432827211e787ca6651f9f3cd938cb8ee38c00480c2b", func := "example.com/veilbroker/veilbroker/zzlaws_scrub_b1.FnAppendCodeUnitsDecodesBack", spec := "fnAppendCodeUnitsDecodesBack", recurses := true, apart := false }
def FnAppendCodeUnitsDecodesBackSaid : Prop := fnAppendCodeUnitsDecodesBackRow.holds Try.pinned (OpenSpec.ofChange fnAppendCodeUnitsDecodesBackSpec)

/-- ITS FALSE NEIGHBOUR: 'it returns false'. Refute it at one input. -/
def fnAppendCodeUnitsDecodesBackWrong : ChangeSpec := { name := "fnAppendCodeUnitsDecodesBack", fn := fun _ => fun
  | [d1, d2, d3, d4] => { results := [.lit (.bool false)], args := [d1, d2, d3, d4] }
  | _ => none }
def FnAppendCodeUnitsDecodesBackWrongFalsely : Prop := fnAppendCodeUnitsDecodesBackRow.holds Try.pinned (OpenSpec.ofChange fnAppendCodeUnitsDecodesBackWrong)

end Rows
end Go.Proofs.Qxb6604644a
