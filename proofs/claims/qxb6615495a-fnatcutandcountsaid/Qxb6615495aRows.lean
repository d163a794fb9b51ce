/-
  No cell of these rows narrows 'for every input' (looked for: loops, veiled, ifaces, maps, wideKeys, modest, calm, conditions, laid).
  DERIVED. THE GIVEN ROWS OF THIS SEAT. 2 by the template 'for every input the law returns true; each argument reads behind the call as it read before'; 0 by the template 'total and deterministic' (their statements: Qxb6615495aTotals.lean).
  GIVEN WITH THE SEED: the statements are not yours to turn. If you find one false, say at which input.
  Laid BY PROGRAM, IN A SANDBOX (cutbox-rows.mjs): the forced cells as the released guide's own fill.sh prints them over the translation 9c9fd4b4909a7749… (all of the seat's roots in one cut). By AI agents, Wed Nov 11 2026. No macro, syntax, notation, axiom, sorry.
-/
import Derived.Test.Qxb6615495aChecked
import GoSem.Claim
import GoSem.ClaimJoined
import GoSem.ClaimMapViews
import Derived.JoinedTies
import Derived.KernelRfl
namespace Go.Proofs.Qxb6615495a
/- THE CELL 'sum', in the pinned program and in every row, IS THE sha256 OF THE DUMP (.gsa) THAT Qxb6615495aProg.lean LOADS. Nothing in Lean hashes anything: it is a label: what it is worth is what the hold of that sum in a sandbox is worth. -/
noncomputable def Try.pinned : Pinned := { name := "qxb6615495a", sum := "9c9fd4b4909a77497d4f67fe10d01147fc1229d11087d3e33c4f8b0c0c62973c", checked := Try.checked }
namespace Rows
def none {H : Type} : Left H := { results := [], args := [] }

/-- 'zzlaws_token_b1.FnAtCutAndCount': WHATEVER THE INPUT: true; the input reads as it did. -/
def fnAtCutAndCountSpec : ChangeSpec := { name := "fnAtCutAndCount", fn := fun _ => fun
  | [d1, d2, d3, d4] => { results := [.lit (.bool true)], args := [d1, d2, d3, d4] }
  | _ => none }
def fnAtCutAndCountRow : OpenClaim := { program := "qxb6615495a", sum := "9c9fd4b4909a77497d4f67fe10d01147fc1229d11087d3e33c4f8b0c0c62973c", func := "example.com/turtle-ant/turtle-ant/zzlaws_token_b1.FnAtCutAndCount", spec := "fnAtCutAndCount", apart := false }
def FnAtCutAndCountSaid : Prop := fnAtCutAndCountRow.holds Try.pinned (OpenSpec.ofChange fnAtCutAndCountSpec)

/-- ITS FALSE NEIGHBOUR: 'it returns false'. Refute it at one input. -/
def fnAtCutAndCountWrong : ChangeSpec := { name := "fnAtCutAndCount", fn := fun _ => fun
  | [d1, d2, d3, d4] => { results := [.lit (.bool false)], args := [d1, d2, d3, d4] }
  | _ => none }
def FnAtCutAndCountWrongFalsely : Prop := fnAtCutAndCountRow.holds Try.pinned (OpenSpec.ofChange fnAtCutAndCountWrong)

/-- 'zzlaws_token_b1.FnAtSeesWhatWasPutIn': WHATEVER THE INPUT: true; the input reads as it did. -/
def fnAtSeesWhatWasPutInSpec : ChangeSpec := { name := "fnAtSeesWhatWasPutIn", fn := fun _ => fun
  | [d1, d2, d3, d4] => { results := [.lit (.bool true)], args := [d1, d2, d3, d4] }
  | _ => none }
def fnAtSeesWhatWasPutInRow : OpenClaim := { program := "qxb6615495a", sum := "9c9fd4b4909a77497d4f67fe10d01147fc1229d11087d3e33c4f8b0c0c62973c", func := "example.com/turtle-ant/turtle-ant/zzlaws_token_b1.FnAtSeesWhatWasPutIn", spec := "fnAtSeesWhatWasPutIn", apart := false }
def FnAtSeesWhatWasPutInSaid : Prop := fnAtSeesWhatWasPutInRow.holds Try.pinned (OpenSpec.ofChange fnAtSeesWhatWasPutInSpec)

/-- ITS FALSE NEIGHBOUR: 'it returns false'. Refute it at one input. -/
def fnAtSeesWhatWasPutInWrong : ChangeSpec := { name := "fnAtSeesWhatWasPutIn", fn := fun _ => fun
  | [d1, d2, d3, d4] => { results := [.lit (.bool false)], args := [d1, d2, d3, d4] }
  | _ => none }
def FnAtSeesWhatWasPutInWrongFalsely : Prop := fnAtSeesWhatWasPutInRow.holds Try.pinned (OpenSpec.ofChange fnAtSeesWhatWasPutInWrong)

end Rows
end Go.Proofs.Qxb6615495a
