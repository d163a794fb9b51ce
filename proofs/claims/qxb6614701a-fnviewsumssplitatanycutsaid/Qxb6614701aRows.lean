/-
  No cell of these rows narrows 'for every input' (looked for: loops, veiled, ifaces, maps, wideKeys, modest, calm, conditions, laid).
  DERIVED. THE GIVEN ROWS OF THIS SEAT. 2 by the template 'for every input the law returns true; each argument reads behind the call as it read before'; 0 by the template 'total and deterministic' (their statements: Qxb6614701aTotals.lean).
  GIVEN WITH THE SEED: the statements are not yours to turn. If you find one false, say at which input.
  Laid BY PROGRAM, IN A SANDBOX (cutbox-rows.mjs): the forced cells as the released guide's own fill.sh prints them over the translation a0199e2b9392922c… (all of the seat's roots in one cut). By AI agents, Wed Nov 11 2026. No macro, syntax, notation, axiom, sorry.
-/
import Derived.Test.Qxb6614701aChecked
import GoSem.Claim
import GoSem.ClaimJoined
import GoSem.ClaimMapViews
import Derived.JoinedTies
import Derived.KernelRfl
namespace Go.Proofs.Qxb6614701a
/- THE CELL 'sum', in the pinned program and in every row, IS THE sha256 OF THE DUMP (.gsa) THAT Qxb6614701aProg.lean LOADS. Nothing in Lean hashes anything: it is a label: what it is worth is what the hold of that sum in a sandbox is worth. -/
noncomputable def Try.pinned : Pinned := { name := "qxb6614701a", sum := "a0199e2b9392922cbc554d244e25286fd0ee9b0e98cfd530f515b7b0a93b9ae9", checked := Try.checked }
namespace Rows
def none {H : Type} : Left H := { results := [], args := [] }

/-- 'zzlaws_internal_expr_b1.FnViewSumsExactAndKept': WHATEVER THE INPUT: true; the input reads as it did. -/
def fnViewSumsExactAndKeptSpec : ChangeSpec := { name := "fnViewSumsExactAndKept", fn := fun _ => fun
  | [d1, d2, d3, d4, d5, d6, d7] => { results := [.lit (.bool true)], args := [d1, d2, d3, d4, d5, d6, d7] }
  | _ => none }
def fnViewSumsExactAndKeptRow : OpenClaim := { program := "qxb6614701a", sum := "a0199e2b9392922cbc554d244e25286fd0ee9b0e98cfd530f515b7b0a93b9ae9", func := "example.com/tidewatch/tidewatch/zzlaws_internal_expr_b1.FnViewSumsExactAndKept", spec := "fnViewSumsExactAndKept", inPlace := ["math.Float64bits"], unfollowed := true, recurses := true, apart := false }
def FnViewSumsExactAndKeptSaid : Prop := fnViewSumsExactAndKeptRow.holds Try.pinned (OpenSpec.ofChange fnViewSumsExactAndKeptSpec)

/-- ITS FALSE NEIGHBOUR: 'it returns false'. Refute it at one input. -/
def fnViewSumsExactAndKeptWrong : ChangeSpec := { name := "fnViewSumsExactAndKept", fn := fun _ => fun
  | [d1, d2, d3, d4, d5, d6, d7] => { results := [.lit (.bool false)], args := [d1, d2, d3, d4, d5, d6, d7] }
  | _ => none }
def FnViewSumsExactAndKeptWrongFalsely : Prop := fnViewSumsExactAndKeptRow.holds Try.pinned (OpenSpec.ofChange fnViewSumsExactAndKeptWrong)

/-- 'zzlaws_internal_expr_b1.FnViewSumsSplitAtAnyCut': WHATEVER THE INPUT: true; the input reads as it did. -/
def fnViewSumsSplitAtAnyCutSpec : ChangeSpec := { name := "fnViewSumsSplitAtAnyCut", fn := fun _ => fun
  | [d1, d2, d3, d4, d5, d6, d7, d8] => { results := [.lit (.bool true)], args := [d1, d2, d3, d4, d5, d6, d7, d8] }
  | _ => none }
def fnViewSumsSplitAtAnyCutRow : OpenClaim := { program := "qxb6614701a", sum := "a0199e2b9392922cbc554d244e25286fd0ee9b0e98cfd530f515b7b0a93b9ae9", func := "example.com/tidewatch/tidewatch/zzlaws_internal_expr_b1.FnViewSumsSplitAtAnyCut", spec := "fnViewSumsSplitAtAnyCut", inPlace := ["math.Float64bits"], unfollowed := true, recurses := true, apart := false }
def FnViewSumsSplitAtAnyCutSaid : Prop := fnViewSumsSplitAtAnyCutRow.holds Try.pinned (OpenSpec.ofChange fnViewSumsSplitAtAnyCutSpec)

/-- ITS FALSE NEIGHBOUR: 'it returns false'. Refute it at one input. -/
def fnViewSumsSplitAtAnyCutWrong : ChangeSpec := { name := "fnViewSumsSplitAtAnyCut", fn := fun _ => fun
  | [d1, d2, d3, d4, d5, d6, d7, d8] => { results := [.lit (.bool false)], args := [d1, d2, d3, d4, d5, d6, d7, d8] }
  | _ => none }
def FnViewSumsSplitAtAnyCutWrongFalsely : Prop := fnViewSumsSplitAtAnyCutRow.holds Try.pinned (OpenSpec.ofChange fnViewSumsSplitAtAnyCutWrong)

end Rows
end Go.Proofs.Qxb6614701a
