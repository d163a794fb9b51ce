/-
  THE SHELL OF A PROOF OF 'Rows.FnLenOfAllMembersIsTheGroupSizeSaid' ('example.com/foreorder/foreorder/zzlaws_internal_protocol_b1.FnLenOfAllMembersIsTheGroupSize'), WRITTEN BY PROGRAM (proof-skeleton.mjs) off the guide's own print for that function. Not trusted: Lean checks it.
  THE WALK AND THE CALLEES' CONTRACTS WERE TYPED BY HAND.
-/
import Derived.Test.Qxb6614805aRows
import Derived.WalkKit
import Derived.ProofKit
import Derived.OpenShut
import Derived.ShutString
namespace Go.Proofs.Qxb6614805a.fnLenOfAllMembersIsTheGroupSize
open Go.ChangeShapes Go.WideShapes Go.ChangeAt Go.RowKit
open Go.ChangeMaps (open_string shut_string)
set_option linter.unusedVariables false      -- a walk need not use every 'w<i>' (that an integer argument fits its kind)

theorem own : ownKnob Try.prog.godebug = none := by kernel_rfl

/-- A callee's end: a value; the world stands. -/
def Ans (w : World) (v : Value) (e : Ending) (w' : World) : Prop := e = .returned v ∧ w' = w

def s1 (x : Int) : Int := IntKind.u64.wrap (bits BinOp.and IntKind.u64 (x / 2) 6148914691236517205 + bits BinOp.and IntKind.u64 x 6148914691236517205)
def s2 (x : Int) : Int := IntKind.u64.wrap (bits BinOp.and IntKind.u64 (x / 4) 3689348814741910323 + bits BinOp.and IntKind.u64 x 3689348814741910323)
def s3 (x : Int) : Int := bits BinOp.and IntKind.u64 (IntKind.u64.wrap (x / 16 + x)) 1085102592571150095
def s4 (x : Int) : Int := IntKind.u64.wrap (x + x / 256)
def s5 (x : Int) : Int := IntKind.u64.wrap (x + x / 65536)
def s6 (x : Int) : Int := IntKind.u64.wrap (x + x / 4294967296)
/-- math/bits.OnesCount64, as her text reckons it. -/
def ones (x : Int) : Int := bits BinOp.and IntKind.i64 (wrap64 (s6 (s5 (s4 (s3 (s2 (s1 x))))))) 127

theorem ones7 (x : Nat) (w : World) : Calls Try.prog 7 #[.int .u64 x] w (Ans w (.int .i64 (ones x))) := by
  go_enter Try.func7, Try.ntmps7
  go_wp2
  go_ret
  exact ⟨rfl, rfl⟩

theorem ones_all : ∀ n : Fin 65, ones ((2 ^ n.val - 1 : Nat) : Int) = n.val := by decide +kernel
theorem ones_none : ∀ n : Fin 65, ones ((18446744073709551615 - (2 ^ n.val - 1) : Nat) : Int) = 64 - n.val := by decide +kernel

/-- The set of all n members. -/
def all (n : Nat) : Nat := 2 ^ n - 1

/-- .. and of none of them, of 64. -/
def rest (n : Nat) : Nat := 18446744073709551615 - (2 ^ n - 1)
theorem rest_fin : ∀ n : Fin 65, bits BinOp.xor IntKind.u64 IntKind.u64.max ((all n.val : Nat) : Int) = ((rest n.val : Nat) : Int) := by decide +kernel

theorem len5 (x : Nat) (w : World) : Calls Try.prog 5 #[.int .u64 x] w (Ans w (.int .i64 (ones x))) := by
  go_enter Try.func5, Try.ntmps5
  go_wp2_with fail
  refine (ones7 x w).mono ?_
  rintro e w1 ⟨rfl, rfl⟩
  go_wp2
  go_ret
  exact ⟨rfl, rfl⟩

theorem all_fin : ∀ n : Fin 65, IntKind.u64.wrap (IntKind.u64.wrap ((2 : Int) ^ n.val) - 1) = ((all n.val : Nat) : Int) := by decide +kernel
theorem all_eq (n : Nat) (hn : n ≤ 64) : IntKind.u64.wrap (IntKind.u64.wrap ((2 : Int) ^ n) - 1) = ((all n : Nat) : Int) := all_fin ⟨n, by omega⟩

theorem all6 (n : Nat) (hn : n ≤ 64) (w : World) : Calls Try.prog 6 #[.int .i64 n] w (Ans w (.int .u64 (all n))) := by
  go_enter Try.func6, Try.ntmps6
  go_wp2
  go_ret
  exact ⟨by simp only [all_eq n hn]; rfl, rfl⟩

/-! ### STEP 1: THE WALK: the Go text returns true. 'Grown w w'': the world has at most new blocks (Derived/RowKit3.lean). Part the cases AHEAD of 'go_enter' where a test parts the walk; take each callee by a contract of your own. -/
theorem walk (a0 : Int) (w0 : (Lit.int .i64 a0).wf = true) (w : World) :
    Calls Try.prog 4 #[.int .i64 a0] w fun e w' => e = .returned (.bool true) ∧ Grown w w' := by
  by_cases h0 : a0 < 0
  · go_enter Try.func4, Try.ntmps4
    go_wp2
    go_ret
    exact ⟨rfl, Grown.refl _⟩
  by_cases h1 : 64 < a0
  · go_enter Try.func4, Try.ntmps4
    go_wp2
    go_ret
    exact ⟨rfl, Grown.refl _⟩
  obtain ⟨n, rfl⟩ := Int.eq_ofNat_of_zero_le (show 0 ≤ a0 by omega)
  have hn : n ≤ 64 := by omega
  have e1 : ones (all n) = n := ones_all ⟨n, by omega⟩
  have e2 : ones (rest n) = 64 - n := ones_none ⟨n, by omega⟩
  have ex : bits BinOp.xor IntKind.u64 IntKind.u64.max ((all n : Nat) : Int) = ((rest n : Nat) : Int) := rest_fin ⟨n, by omega⟩
  go_enter Try.func4, Try.ntmps4
  go_wp2_with fail
  refine (all6 n hn w).mono ?_
  rintro e w1 ⟨rfl, rfl⟩
  go_wp2_with fail
  refine (len5 _ w1).mono ?_
  rintro e w1 ⟨rfl, rfl⟩
  go_wp2_with fail
  refine (len5 _ w1).mono ?_
  rintro e w1 ⟨rfl, rfl⟩
  go_wp2
  go_ret
  exact ⟨rfl, Grown.refl _⟩

/-! ### THE ROW's STEP: WRITTEN OUT: LEAVE IT -/
set_option maxRecDepth 100000 in
theorem lifted (os : Os) (started : os.Started) (H : Type) (enc : TypeId × Value → H) :
    ReturnsInHanded {} Try.checked os 4 .any (Rows.fnLenOfAllMembersIsTheGroupSizeSpec.pre6 enc Try.prog Try.f4 Rows.fnLenOfAllMembersIsTheGroupSizeRow.domain false) (Rows.fnLenOfAllMembersIsTheGroupSizeSpec.post enc Try.prog Try.f4 false true false false) := by
  refine returnsInHanded_of_change (C := Try.checked) own started (by kernel_rfl) Try.func4
    (ChangeSpec.witness6 (enc := enc) (C := Try.checked) false ⟨#[], #[.int .i64 0], []⟩ 8 (by kernel_rfl) (by kernel_rfl) (by kernel_rfl) (by kernel_rfl)) ?_
  intro W base args ds gs before hval0 hW hcnd _
  have hval : ∀ (j : Nat) t v, Try.f4.params[j]? = some t → args[j]? = some v → Value.okWide Try.prog W .any base t v := hval0
  have hW' := hW
  obtain ⟨p, q, hA0, hV, rfl, hfz, hnd⟩ := hW
  have hA : DataW.TrodAll enc Try.prog W 0 (fun _ => true) true Try.f4.params.toList args.toList ds p := hA0
  rw [Try.params4] at hA hval
  obtain ⟨v0, vs0, d0, ds0, p0, q0, hargs, rfl, rfl, h0, r0⟩ := trodAll_cons hA
  obtain ⟨rfl, rfl, rfl⟩ := trodAll_nil r0
  obtain rfl : args = #[v0] := by cases args; simp_all
  obtain ⟨rfl, rfl⟩ := trodVars_none hV
  obtain ⟨a0, rfl, rfl, rfl, w0⟩ := open_int Try.underlying3 (hval 0 3 v0 rfl rfl) h0
  clear hA0 hval0
  simp only [List.append_nil] at hW'
  refine (walk a0 w0 W).mono fun e W' ⟨he, hg⟩ => ?_
  subst he
  exact ⟨_, rfl, post_of_same (pa := []) (pv := []) hW' (fun _ _ _ => (trodAll_cons_mk (shut_bool Try.underlying4 _) trodAll_mk0)) (fun sp _ => (trodAll_cons_mk (shut_int Try.underlying3 w0) trodAll_mk0)) (fun _ _ => rfl) rfl
    (hg.frame _) hg.2.1 (ok_one (by kernel_rfl) rfl (okWide_bool_mk Try.underlying4 _))⟩

theorem over : Rows.fnLenOfAllMembersIsTheGroupSizeRow.holds Try.pinned (OpenSpec.ofChange Rows.fnLenOfAllMembersIsTheGroupSizeSpec) :=
  OpenClaim.holds_of_wide 4 Try.f4 rfl rfl rfl rfl rfl rfl rfl ⟨rfl, rfl, rfl, rfl, rfl⟩ rfl rfl rfl rfl rfl (by kernel_rfl) Try.func4 (by kernel_rfl)
    (of_decide_eq_true (by kernel_rfl)) (by unfold Func.isWrapper; first | (rw [if_pos (by decide +kernel)]; kernel_rfl) | (rw [if_neg (by decide +kernel)]; exact ⟨rfl, rfl⟩))
    (fun os started H enc _ => lifted os started H enc)

/-- ████ THE STATEMENT ████ -/
theorem proved : Rows.FnLenOfAllMembersIsTheGroupSizeSaid :=
  over
#print axioms proved
end Go.Proofs.Qxb6614805a.fnLenOfAllMembersIsTheGroupSize
