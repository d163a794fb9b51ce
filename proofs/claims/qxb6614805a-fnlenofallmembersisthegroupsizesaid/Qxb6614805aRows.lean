/-
  No cell of these rows narrows 'for every input' (looked for: loops, veiled, ifaces, maps, wideKeys, modest, calm, conditions, laid).
  DERIVED. THE GIVEN ROWS OF THIS SEAT. 2 by the template 'for every input the law returns true; each argument reads behind the call as it read before'; 0 by the template 'total and deterministic' (their statements: Qxb6614805aTotals.lean).
  GIVEN WITH THE SEED: the statements are not yours to turn. If you find one false, say at which input.
  Laid BY PROGRAM, IN A SANDBOX (cutbox-rows.mjs): the forced cells as the released guide's own fill.sh prints them over the translation 52250ac0402e2c9f… (all of the seat's roots in one cut). By AI agents, Wed Nov 11 2026. No macro, syntax, notation, axiom, sorry.
-/
import Derived.Test.Qxb6614805aChecked
import GoSem.Claim
import GoSem.ClaimJoined
import GoSem.ClaimMapViews
import Derived.JoinedTies
import Derived.KernelRfl
namespace Go.Proofs.Qxb6614805a
/- THE CELL 'sum', in the pinned program and in every row, IS THE sha256 OF THE DUMP (.gsa) THAT Qxb6614805aProg.lean LOADS. Nothing in Lean hashes anything: it is a label: what it is worth is what the hold of that sum in a sandbox is worth. -/
noncomputable def Try.pinned : Pinned := { name := "qxb6614805a", sum := "52250ac0402e2c9ff61effb63974c8ce52767adfea7270720f55a082f3200dbd", checked := Try.checked }
namespace Rows
def none {H : Type} : Left H := { results := [], args := [] }

/-- 'zzlaws_internal_protocol_b1.FnLenGainsOneForEachNewMember': WHATEVER THE INPUT: true; the input reads as it did. -/
def fnLenGainsOneForEachNewMemberSpec : ChangeSpec := { name := "fnLenGainsOneForEachNewMember", fn := fun _ => fun
  | [d1, d2] => { results := [.lit (.bool true)], args := [d1, d2] }
  | _ => none }
def fnLenGainsOneForEachNewMemberRow : OpenClaim := { program := "qxb6614805a", sum := "52250ac0402e2c9ff61effb63974c8ce52767adfea7270720f55a082f3200dbd", func := "example.com/foreorder/foreorder/zzlaws_internal_protocol_b1.FnLenGainsOneForEachNewMember", spec := "fnLenGainsOneForEachNewMember", apart := false }
def FnLenGainsOneForEachNewMemberSaid : Prop := fnLenGainsOneForEachNewMemberRow.holds Try.pinned (OpenSpec.ofChange fnLenGainsOneForEachNewMemberSpec)

/-- ITS FALSE NEIGHBOUR: 'it returns false'. Refute it at one input. -/
def fnLenGainsOneForEachNewMemberWrong : ChangeSpec := { name := "fnLenGainsOneForEachNewMember", fn := fun _ => fun
  | [d1, d2] => { results := [.lit (.bool false)], args := [d1, d2] }
  | _ => none }
def FnLenGainsOneForEachNewMemberWrongFalsely : Prop := fnLenGainsOneForEachNewMemberRow.holds Try.pinned (OpenSpec.ofChange fnLenGainsOneForEachNewMemberWrong)

/-- 'zzlaws_internal_protocol_b1.FnLenOfAllMembersIsTheGroupSize': WHATEVER THE INPUT: true; the input reads as it did. -/
def fnLenOfAllMembersIsTheGroupSizeSpec : ChangeSpec := { name := "fnLenOfAllMembersIsTheGroupSize", fn := fun _ => fun
  | [d] => { results := [.lit (.bool true)], args := [d] }
  | _ => none }
def fnLenOfAllMembersIsTheGroupSizeRow : OpenClaim := { program := "qxb6614805a", sum := "52250ac0402e2c9ff61effb63974c8ce52767adfea7270720f55a082f3200dbd", func := "example.com/foreorder/foreorder/zzlaws_internal_protocol_b1.FnLenOfAllMembersIsTheGroupSize", spec := "fnLenOfAllMembersIsTheGroupSize", apart := false }
def FnLenOfAllMembersIsTheGroupSizeSaid : Prop := fnLenOfAllMembersIsTheGroupSizeRow.holds Try.pinned (OpenSpec.ofChange fnLenOfAllMembersIsTheGroupSizeSpec)

/-- ITS FALSE NEIGHBOUR: 'it returns false'. Refute it at one input. -/
def fnLenOfAllMembersIsTheGroupSizeWrong : ChangeSpec := { name := "fnLenOfAllMembersIsTheGroupSize", fn := fun _ => fun
  | [d] => { results := [.lit (.bool false)], args := [d] }
  | _ => none }
def FnLenOfAllMembersIsTheGroupSizeWrongFalsely : Prop := fnLenOfAllMembersIsTheGroupSizeRow.holds Try.pinned (OpenSpec.ofChange fnLenOfAllMembersIsTheGroupSizeWrong)

end Rows
end Go.Proofs.Qxb6614805a
