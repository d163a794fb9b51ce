import Derived.Test.Qxb6614501aLawB
import Derived.ProofKit
import Derived.OpenShut
import Derived.ChangeOld
import Derived.Below
import Derived.Deep.Matrix
namespace Go.Proofs.Qxb6614501a.fnIndexSetRemovalsCommute
open Go.ChangeShapes Go.WideShapes Go.ChangeAt Go.RowKit Go.Deep
set_option linter.unusedVariables false

theorem own : ownKnob Try.prog.godebug = none := by kernel_rfl
theorem laidOut : laidOutB Try.prog = true := by kernel_rfl

/-- The walk, whatever slice of slices came in. -/
theorem walk (a0 : Option Addr) (len0 cap0 : Nat) (a1 : Int) (a2 : Int) (w : World)
    (w0 : (a0 = none ∧ len0 = 0 ∧ cap0 = 0) ∨ ∃ (a : Addr) (A : Nat → Option Addr) (L C : Nat → Nat) (Z : Nat → List Int), a0 = some a ∧ len0 ≤ cap0 ∧ cap0 ≤ maxLen ∧
      ∀ r, r < cap0 → w.cell? (a.add r) = some (.slice (A r) (L r) (C r)) ∧ L r ≤ C r ∧ C r ≤ maxLen ∧ (Z r).length = C r ∧ (∀ n ∈ Z r, (Lit.int .u64 n).wf = true) ∧ (A r = none → C r = 0) ∧
        ∀ a', A r = some a' → 0 ≤ a'.block ∧ ∀ c, c < C r → w.cell? (a'.add c) = some (.int .u64 ((Z r).getD c 0)))
    (w1 : (Lit.int .i64 a1).wf = true) (w2 : (Lit.int .i64 a2).wf = true) :
    Calls Try.prog 4 #[.slice a0 len0 cap0, .int .i64 a1, .int .i64 a2] w (LawOk w) := by
  rcases w0 with ⟨rfl, rfl, rfl⟩ | ⟨a, A, L, C, Z, rfl, hl, hm, hrows⟩
  · exact law4_none none 0 a1 a2 w
  by_cases h0 : len0 = 0
  · subst h0
    exact law4_none (some a) cap0 a1 a2 w
  obtain ⟨N, rfl⟩ : ∃ N, len0 = N + 1 := ⟨len0 - 1, by omega⟩
  obtain ⟨bm, om, spot⟩ := a
  have hspot : spot = none := by simpa [Addr.add] using World.cell?_spot (hrows 0 (by omega)).1
  subst hspot
  have maxLen_eq : maxLen = 9223372036854775807 := rfl
  have bd1 : -9223372036854775808 ≤ a1 ∧ a1 ≤ 9223372036854775807 := by simpa [Lit.wf, IntKind.min, IntKind.max, IntKind.bits, IntKind.signed] using w1
  have bd2 : -9223372036854775808 ≤ a2 ∧ a2 ≤ 9223372036854775807 := by simpa [Lit.wf, IntKind.min, IntKind.max, IntKind.bits, IntKind.signed] using w2
  have hAr : ∀ r, r < N + 1 → ∀ c, c < L r → ∃ b o, A r = some ⟨b, o, none⟩ ∧ w.cell? ⟨b, o + c, none⟩ = some (.int .u64 ((Z r).getD c 0)) := by
    intro r hr c hc
    obtain ⟨_, h1, _, _, _, h3, h4⟩ := hrows r (by omega)
    cases hA' : A r with
    | none =>
      have := h3 hA'
      omega
    | some a' =>
      obtain ⟨_, hcell⟩ := h4 a' hA'
      obtain ⟨b, o, sp⟩ := a'
      have hs : sp = none := by simpa [Addr.add] using World.cell?_spot (hcell 0 (by omega))
      subst hs
      exact ⟨b, o, rfl, by rw [← add_plain]; exact hcell c (by omega)⟩
  have hwf : ∀ r, r < N + 1 → ∀ c, c < L r → 0 ≤ (Z r).getD c 0 ∧ (Z r).getD c 0 < 18446744073709551616 := by
    intro r hr c hc
    obtain ⟨_, h1, _, h2, hw, _⟩ := hrows r (by omega)
    have hmem : (Z r).getD c 0 ∈ Z r := by
      rw [List.getD, List.getElem?_eq_getElem (show c < (Z r).length by omega)]
      exact List.getElem_mem _
    have := hw _ hmem
    simp [Lit.wf, IntKind.min, IntKind.max, IntKind.bits, IntKind.signed] at this
    simp
    omega
  have hrd : Rd w bm om (N + 1) A L C (fun r => ((A r).getD default).block) (fun r => ((A r).getD default).off) (fun r c => ((Z r).getD c 0).toNat) := by
    refine ⟨fun r hr => by rw [← add_plain]; exact (hrows r (by omega)).1, fun r hr c hc => ?_, fun r hr c hc => ?_, fun r hr c hc => ?_, fun r hr => ?_⟩
    · obtain ⟨b, o, e1, _⟩ := hAr r hr c hc
      simp [e1]
    · obtain ⟨b, o, e1, e2⟩ := hAr r hr c hc
      rw [Int.toNat_of_nonneg (hwf r hr c hc).1]
      simpa [e1] using e2
    · have := hwf r hr c hc
      omega
    · obtain ⟨_, h1, h2, _⟩ := hrows r (by omega)
      omega
  exact law4 bm om N cap0 A L C _ _ _ a1 a2 w (by omega) bd1.1 bd1.2 bd2.1 bd2.2 hrd

set_option maxRecDepth 100000 in
theorem lifted (os : Os) (started : os.Started) (H : Type) (enc : TypeId × Value → H) :
    ReturnsInHanded {} Try.checked os 4 .any (Rows.fnIndexSetRemovalsCommuteSpec.pre6 enc Try.prog Try.f4 Rows.fnIndexSetRemovalsCommuteRow.domain false) (Rows.fnIndexSetRemovalsCommuteSpec.post enc Try.prog Try.f4 false true false false) := by
  refine returnsInHanded_of_change (C := Try.checked) own started (by kernel_rfl) Try.func4
    (ChangeSpec.witness6 (enc := enc) (C := Try.checked) false ⟨#[], #[.slice none 0 0, .int .i64 0, .int .i64 0], []⟩ 8 (by kernel_rfl) (by kernel_rfl) (by kernel_rfl) (by kernel_rfl)) ?_
  intro W base args ds gs before hval0 hW hcnd _
  have hval : ∀ (j : Nat) t v, Try.f4.params[j]? = some t → args[j]? = some v → Value.okWide Try.prog W .any base t v := hval0
  have hW' := hW
  obtain ⟨p, q, hA0, hV, rfl, hfz, hnd⟩ := hW
  have hA : DataW.TrodAll enc Try.prog W 0 (fun _ => true) true Try.f4.params.toList args.toList ds p := hA0
  rw [Try.params4] at hA hval
  obtain ⟨v0, vs0, d0, ds0, p0, q0, hargs, rfl, rfl, h0, r0⟩ := trodAll_cons hA
  obtain ⟨v1, vs1, d1, ds1, p1, q1, rfl, rfl, rfl, h1, r1⟩ := trodAll_cons r0
  obtain ⟨v2, vs2, d2, ds2, p2, q2, rfl, rfl, rfl, h2, r2⟩ := trodAll_cons r1
  obtain ⟨rfl, rfl, rfl⟩ := trodAll_nil r2
  obtain rfl : args = #[v0, v1, v2] := by cases args; simp_all
  obtain ⟨rfl, rfl⟩ := trodVars_none hV
  obtain ⟨a0, len0, cap0, rfl⟩ := okWide_slice Try.underlying22 (hval 0 22 v0 rfl rfl)
  have k0 := h0
  have lt0 : ∀ x ∈ p0, x.block < W.heap.size := by obtain ⟨m, hm⟩ := k0; exact DataW.trod_lt m _ _ _ hm
  obtain ⟨fuel0, hf0⟩ := h0
  have w0 : (a0 = none ∧ len0 = 0 ∧ cap0 = 0) ∨ ∃ (a : Addr) (A : Nat → Option Addr) (L C : Nat → Nat) (Z : Nat → List Int), a0 = some a ∧ len0 ≤ cap0 ∧ cap0 ≤ maxLen ∧
      ∀ r, r < cap0 → W.cell? (a.add r) = some (.slice (A r) (L r) (C r)) ∧ L r ≤ C r ∧ C r ≤ maxLen ∧ (Z r).length = C r ∧ (∀ n ∈ Z r, (Lit.int .u64 n).wf = true) ∧ (A r = none → C r = 0) ∧
        ∀ a', A r = some a' → 0 ≤ a'.block ∧ ∀ c, c < C r → W.cell? (a'.add c) = some (.int .u64 ((Z r).getD c 0)) := by
    rcases open_int_rows Try.underlying22 Try.underlying25 Try.underlying27 (by kernel_rfl) (by kernel_rfl) hf0 with ⟨hcs0, _⟩ | ⟨a, len', cap', A, L, C, Z, hcs0, _, hl, hm, _, hrows⟩
    · simp [Value.cells] at hcs0
      exact .inl hcs0
    · simp [Value.cells] at hcs0
      obtain ⟨rfl, rfl, rfl⟩ := hcs0
      exact .inr ⟨a, A, L, C, Z, rfl, hl, hm, hrows⟩
  obtain ⟨a1, rfl, rfl, rfl, w1⟩ := open_int Try.underlying3 (hval 1 3 v1 rfl rfl) h1
  obtain ⟨a2, rfl, rfl, rfl, w2⟩ := open_int Try.underlying3 (hval 2 3 v2 rfl rfl) h2
  clear hA0 hval0
  refine (walk a0 len0 cap0 a1 a2 W w0 w1 w2).mono fun e W' ⟨he, bel⟩ => ?_
  subst he
  exact ⟨_, rfl, _, _, _, [], _, [], hW', trodAll_mk1 (shut_bool Try.underlying4 _), (trodAll_cons_mk (Below.trod laidOut (by kernel_rfl) (of_decide_eq_true (by kernel_rfl)) k0 bel lt0) (trodAll_cons_mk (shut_int Try.underlying3 w1) (trodAll_cons_mk (shut_int Try.underlying3 w2) trodAll_mk0))), rfl, bel.frame _, fun h => by cases h⟩

theorem over : Rows.fnIndexSetRemovalsCommuteRow.holds Try.pinned (OpenSpec.ofChange Rows.fnIndexSetRemovalsCommuteSpec) :=
  OpenClaim.holds_of_wide 4 Try.f4 rfl rfl rfl rfl rfl rfl rfl ⟨rfl, rfl, rfl, rfl, rfl⟩ rfl rfl rfl rfl rfl (by kernel_rfl) Try.func4 (by kernel_rfl)
    (of_decide_eq_true (by kernel_rfl)) (by unfold Func.isWrapper; first | (rw [if_pos (by decide +kernel)]; kernel_rfl) | (rw [if_neg (by decide +kernel)]; exact ⟨rfl, rfl⟩))
    (fun os started H enc _ => lifted os started H enc)

/-- THE STATEMENT. -/
theorem proved : Rows.FnIndexSetRemovalsCommuteSaid := over
#print axioms proved
end Go.Proofs.Qxb6614501a.fnIndexSetRemovalsCommute
