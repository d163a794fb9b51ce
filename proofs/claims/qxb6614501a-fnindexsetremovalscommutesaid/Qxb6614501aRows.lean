/-
  No cell of these rows narrows 'for every input' (looked for: loops, veiled, ifaces, maps, wideKeys, modest, calm, conditions, laid).
  DERIVED. THE GIVEN ROWS OF THIS SEAT. 2 by the template 'for every input the law returns true; each argument reads behind the call as it read before'; 0 by the template 'total and deterministic' (their statements: Qxb6614501aTotals.lean).
  GIVEN WITH THE SEED: the statements are not yours to turn. If you find one false, say at which input.
  Laid BY PROGRAM, IN A SANDBOX (cutbox-rows.mjs): the forced cells as the released guide's own fill.sh prints them over the translation a25bfbd8b18918ff… (all of the seat's roots in one cut). By AI agents, Wed Nov 11 2026. No macro, syntax, notation, axiom, sorry.
-/
import Derived.Test.Qxb6614501aChecked
import GoSem.Claim
import GoSem.ClaimJoined
import GoSem.ClaimMapViews
import Derived.JoinedTies
import Derived.KernelRfl
namespace Go.Proofs.Qxb6614501a
/- THE CELL 'sum', in the pinned program and in every row, IS THE sha256 OF THE DUMP (.gsa) THAT Qxb6614501aProg.lean LOADS. Nothing in Lean hashes anything: it is a label: what it is worth is what the hold of that sum in a sandbox is worth. -/
noncomputable def Try.pinned : Pinned := { name := "qxb6614501a", sum := "a25bfbd8b18918ffe82dfbf49608cf3306d33d7fc803f1e8654c70a168cd2611", checked := Try.checked }
namespace Rows
def none {H : Type} : Left H := { results := [], args := [] }

/-- 'zzlaws_client_b1.FnIndexSetRemoveAgreesWithRebuild': WHATEVER THE INPUT: true; the input reads as it did. -/
def fnIndexSetRemoveAgreesWithRebuildSpec : ChangeSpec := { name := "fnIndexSetRemoveAgreesWithRebuild", fn := fun _ => fun
  | [d1, d2] => { results := [.lit (.bool true)], args := [d1, d2] }
  | _ => none }
def fnIndexSetRemoveAgreesWithRebuildRow : OpenClaim := { program := "qxb6614501a", sum := "a25bfbd8b18918ffe82dfbf49608cf3306d33d7fc803f1e8654c70a168cd2611", func := "example.com/swarmline/swarmline/zzlaws_client_b1.FnIndexSetRemoveAgreesWithRebuild", spec := "fnIndexSetRemoveAgreesWithRebuild", apart := false }
def FnIndexSetRemoveAgreesWithRebuildSaid : Prop := fnIndexSetRemoveAgreesWithRebuildRow.holds Try.pinned (OpenSpec.ofChange fnIndexSetRemoveAgreesWithRebuildSpec)

/-- ITS FALSE NEIGHBOUR: 'it returns false'. Refute it at one input. -/
def fnIndexSetRemoveAgreesWithRebuildWrong : ChangeSpec := { name := "fnIndexSetRemoveAgreesWithRebuild", fn := fun _ => fun
  | [d1, d2] => { results := [.lit (.bool false)], args := [d1, d2] }
  | _ => none }
def FnIndexSetRemoveAgreesWithRebuildWrongFalsely : Prop := fnIndexSetRemoveAgreesWithRebuildRow.holds Try.pinned (OpenSpec.ofChange fnIndexSetRemoveAgreesWithRebuildWrong)

/-- 'zzlaws_client_b1.FnIndexSetRemovalsCommute': WHATEVER THE INPUT: true; the input reads as it did. -/
def fnIndexSetRemovalsCommuteSpec : ChangeSpec := { name := "fnIndexSetRemovalsCommute", fn := fun _ => fun
  | [d1, d2, d3] => { results := [.lit (.bool true)], args := [d1, d2, d3] }
  | _ => none }
def fnIndexSetRemovalsCommuteRow : OpenClaim := { program := "qxb6614501a", sum := "a25bfbd8b18918ffe82dfbf49608cf3306d33d7fc803f1e8654c70a168cd2611", func := "example.com/swarmline/swarmline/zzlaws_client_b1.FnIndexSetRemovalsCommute", spec := "fnIndexSetRemovalsCommute", apart := false }
def FnIndexSetRemovalsCommuteSaid : Prop := fnIndexSetRemovalsCommuteRow.holds Try.pinned (OpenSpec.ofChange fnIndexSetRemovalsCommuteSpec)

/-- ITS FALSE NEIGHBOUR: 'it returns false'. Refute it at one input. -/
def fnIndexSetRemovalsCommuteWrong : ChangeSpec := { name := "fnIndexSetRemovalsCommute", fn := fun _ => fun
  | [d1, d2, d3] => { results := [.lit (.bool false)], args := [d1, d2, d3] }
  | _ => none }
def FnIndexSetRemovalsCommuteWrongFalsely : Prop := fnIndexSetRemovalsCommuteRow.holds Try.pinned (OpenSpec.ofChange fnIndexSetRemovalsCommuteWrong)

end Rows
end Go.Proofs.Qxb6614501a
