import Derived.Test.Qxb6614701aLwB
import Derived.ProofKit
import Derived.OpenShut
import Derived.ChangeOld
import Derived.Below
import Derived.Deep.Slices
import Derived.ChangeSlices
namespace Go.Proofs.Qxb6614701a.fnViewSumsSplitAtAnyCut
open Go.ChangeShapes Go.WideShapes Go.ChangeAt Go.RowKit Go.Deep
set_option linter.unusedVariables false

theorem own : ownKnob Try.prog.godebug = none := by kernel_rfl
theorem laidOut : laidOutB Try.prog = true := by kernel_rfl

/-- A float in a cell: its bits. -/
theorem float_cell {H : Type} {enc : TypeId × Value → H} {P : Program} {w : World} {base : Nat} {spare : Nat → Bool} {held : Bool} {n : Nat} {e : TypeId} {v : Value} {x : DataW H × List MemPlace} (he : P.underlying e = some (.float .f64))
    (h : DataW.trod enc P w base spare held n e [v] = some x) : ∃ b, v = .float .f64 b ∧ b < 18446744073709551616 := by
  cases n with
  | zero => simp [DataW.trod] at h
  | succ n =>
    simp only [DataW.trod, he] at h
    cases v with
    | float k b =>
      simp only at h
      split at h
      · rename_i hk
        obtain ⟨rfl, hw⟩ := hk
        exact ⟨b, rfl, by simpa [Lit.wf] using hw⟩
      · cases h
    | _ => simp at h

/-- The walk, whatever slices came in. -/
theorem walk (a0 : Option Addr) (n0 c0 : Nat) (a1 : Option Addr) (n1 c1 : Nat) (a2 : Int) (a3 : Int) (a4 : Int) (a5 : Int) (a6 : Int) (sq : Bool) (w : World)
    (w0 : (a0 = none ∧ n0 = 0 ∧ c0 = 0) ∨ ∃ (a : Addr) (zs : List Int), a0 = some a ∧ n0 ≤ c0 ∧ c0 ≤ maxLen ∧ ∀ i, i < n0 → w.cell? (a.add i) = some (.int .i64 (zs.getD i 0)))
    (w1 : (a1 = none ∧ n1 = 0 ∧ c1 = 0) ∨ ∃ (a : Addr) (V : Nat → Value), a1 = some a ∧ n1 ≤ c1 ∧ c1 ≤ maxLen ∧ ∀ i, i < n1 → w.cell? (a.add i) = some (V i) ∧ ∃ b, V i = .float .f64 b ∧ b < 18446744073709551616)
    (w2 : (Lit.int .i64 a2).wf = true) (w3 : (Lit.int .i64 a3).wf = true) (w4 : (Lit.int .i64 a4).wf = true) (w5 : (Lit.int .i64 a5).wf = true) (w6 : (Lit.int .i64 a6).wf = true) :
    Calls Try.prog 4 #[.slice a0 n0 c0, .slice a1 n1 c1, .int .i64 a2, .int .i64 a3, .int .i64 a4, .int .i64 a5, .int .i64 a6, .bool sq] w (LawOk w) := by
  have maxLen_eq : maxLen = 9223372036854775807 := rfl
  have bd4 : -9223372036854775808 ≤ a4 ∧ a4 ≤ 9223372036854775807 := by simpa [Lit.wf, IntKind.min, IntKind.max, IntKind.bits, IntKind.signed] using w4
  obtain ⟨bt, ot, T, hT1, hT2, hT3, hT4⟩ : ∃ (bt ot : Nat) (T : Nat → Int), (0 < n0 → a0 = some ⟨bt, ot, none⟩) ∧ (∀ i, i < n0 → w.cell? ⟨bt, ot + i, none⟩ = some (.int .i64 (T i))) ∧ (a0 = none → n0 = 0) ∧ n0 ≤ 9223372036854775807 := by
    rcases w0 with ⟨rfl, rfl, rfl⟩ | ⟨a, zs, rfl, hl, hm, hc⟩
    · exact ⟨0, 0, fun _ => 0, fun h => absurd h (by omega), fun i hi => absurd hi (by omega), fun _ => rfl, by omega⟩
    · obtain ⟨b, o, sp⟩ := a
      have hs : 0 < n0 → sp = none := fun h0 => by simpa [Addr.add] using World.cell?_spot (hc 0 h0)
      refine ⟨b, o, fun i => zs.getD i 0, fun h0 => by rw [hs h0], fun i hi => ?_, fun h => (by cases h), by omega⟩
      have := hc i hi
      rw [hs (by omega)] at this
      rw [← add_plain]
      exact this
  obtain ⟨bv, ov, Y, hF, hF0, hY, hL⟩ : ∃ (bv ov : Nat) (Y : Nat → Nat), Fc w a1 n1 bv ov Y ∧ (a1 = none → n1 = 0) ∧ (∀ i, i < n1 → Y i < 18446744073709551616) ∧ n1 ≤ 9223372036854775807 := by
    rcases w1 with ⟨rfl, rfl, rfl⟩ | ⟨a, V, rfl, hl, hm, hc⟩
    · exact ⟨0, 0, fun _ => 0, ⟨fun h => absurd h (by omega), fun i hi => absurd hi (by omega)⟩, fun _ => rfl, fun i hi => absurd hi (by omega), by omega⟩
    · obtain ⟨b, o, sp⟩ := a
      have hs : 0 < n1 → sp = none := fun h0 => by simpa [Addr.add] using World.cell?_spot (hc 0 h0).1
      have hv : ∀ i, i < n1 → V i = .float .f64 (match V i with | .float _ b => b | _ => 0) ∧ (match V i with | .float _ b => b | _ => 0) < 18446744073709551616 := fun i hi => by
        obtain ⟨_, b, e, hb⟩ := hc i hi
        rw [e]
        exact ⟨rfl, hb⟩
      refine ⟨b, o, fun i => (match V i with | .float _ b => b | _ => 0), ⟨fun h0 => by rw [hs h0], fun i hi => ?_⟩, fun h => (by cases h), fun i hi => (hv i hi).2, by omega⟩
      have := (hc i hi).1
      rw [hs (by omega), (hv i hi).1] at this
      rw [← add_plain]
      exact this
  exact law4 a0 n0 c0 bt ot T a1 n1 c1 bv ov Y a2 a3 a4 a5 a6 sq w hT1 hT2 hT3 hF hF0 hY hT4 hL bd4.2

set_option maxRecDepth 100000 in
theorem lifted (os : Os) (started : os.Started) (H : Type) (enc : TypeId × Value → H) :
    ReturnsInHanded {} Try.checked os 4 .any (Rows.fnViewSumsSplitAtAnyCutSpec.pre6 enc Try.prog Try.f4 Rows.fnViewSumsSplitAtAnyCutRow.domain false) (Rows.fnViewSumsSplitAtAnyCutSpec.post enc Try.prog Try.f4 false true false false) := by
  refine returnsInHanded_of_change (C := Try.checked) own started (by kernel_rfl) Try.func4
    (ChangeSpec.witness6 (enc := enc) (C := Try.checked) false ⟨#[], #[.slice none 0 0, .slice none 0 0, .int .i64 0, .int .i64 0, .int .i64 0, .int .i64 0, .int .i64 0, .bool false], []⟩ 8 (by kernel_rfl) (by kernel_rfl) (by kernel_rfl) (by kernel_rfl)) ?_
  intro W base args ds gs before hval0 hW hcnd _
  have hval : ∀ (j : Nat) t v, Try.f4.params[j]? = some t → args[j]? = some v → Value.okWide Try.prog W .any base t v := hval0
  have hW' := hW
  obtain ⟨p, q, hA0, hV, rfl, hfz, hnd⟩ := hW
  have hA : DataW.TrodAll enc Try.prog W 0 (fun _ => true) true Try.f4.params.toList args.toList ds p := hA0
  rw [Try.params4] at hA hval
  obtain ⟨v0, vs0, d0, ds0, p0, q0, hargs, rfl, rfl, h0, r0⟩ := trodAll_cons hA
  obtain ⟨v1, vs1, d1, ds1, p1, q1, rfl, rfl, rfl, h1, r1⟩ := trodAll_cons r0
  obtain ⟨v2, vs2, d2, ds2, p2, q2, rfl, rfl, rfl, h2, r2⟩ := trodAll_cons r1
  obtain ⟨v3, vs3, d3, ds3, p3, q3, rfl, rfl, rfl, h3, r3⟩ := trodAll_cons r2
  obtain ⟨v4, vs4, d4, ds4, p4, q4, rfl, rfl, rfl, h4, r4⟩ := trodAll_cons r3
  obtain ⟨v5, vs5, d5, ds5, p5, q5, rfl, rfl, rfl, h5, r5⟩ := trodAll_cons r4
  obtain ⟨v6, vs6, d6, ds6, p6, q6, rfl, rfl, rfl, h6, r6⟩ := trodAll_cons r5
  obtain ⟨v7, vs7, d7, ds7, p7, q7, rfl, rfl, rfl, h7, r7⟩ := trodAll_cons r6
  obtain ⟨rfl, rfl, rfl⟩ := trodAll_nil r7
  obtain rfl : args = #[v0, v1, v2, v3, v4, v5, v6, v7] := by cases args; simp_all
  obtain ⟨rfl, rfl⟩ := trodVars_none hV
  obtain ⟨a0, n0, c0, rfl⟩ := okWide_slice Try.underlying22 (hval 0 22 v0 rfl rfl)
  obtain ⟨a1, n1, c1, rfl⟩ := okWide_slice Try.underlying23 (hval 1 23 v1 rfl rfl)
  have k0 := h0
  have k1 := h1
  have lt0 : ∀ x ∈ p0, x.block < W.heap.size := by obtain ⟨m, hm⟩ := k0; exact DataW.trod_lt m _ _ _ hm
  have lt1 : ∀ x ∈ p1, x.block < W.heap.size := by obtain ⟨m, hm⟩ := k1; exact DataW.trod_lt m _ _ _ hm
  obtain ⟨fuel0, hf0⟩ := h0
  obtain ⟨fuel1, hf1⟩ := h1
  have w0 : (a0 = none ∧ n0 = 0 ∧ c0 = 0) ∨ ∃ (a : Addr) (zs : List Int), a0 = some a ∧ n0 ≤ c0 ∧ c0 ≤ maxLen ∧ ∀ i, i < n0 → W.cell? (a.add i) = some (.int .i64 (zs.getD i 0)) := by
    rcases open_ints Try.underlying22 Try.underlying2 (by kernel_rfl) hf0 with ⟨hcs, _⟩ | ⟨a, len, cap, zs, hcs, _, hl, hm, hz, _, hc, _⟩
    · simp [Value.cells] at hcs
      exact .inl hcs
    · simp [Value.cells] at hcs
      obtain ⟨rfl, rfl, rfl⟩ := hcs
      exact .inr ⟨a, zs, rfl, hl, hm, fun i hi => hc i (by simp at hz; omega)⟩
  have w1 : (a1 = none ∧ n1 = 0 ∧ c1 = 0) ∨ ∃ (a : Addr) (V : Nat → Value), a1 = some a ∧ n1 ≤ c1 ∧ c1 ≤ maxLen ∧ ∀ i, i < n1 → W.cell? (a.add i) = some (V i) ∧ ∃ b, V i = .float .f64 b ∧ b < 18446744073709551616 := by
    rcases open_slice1 Try.underlying23 (by kernel_rfl) hf1 with ⟨hcs, _⟩ | ⟨a, len, cap, m, n, V, D, Pl, hcs, _, hl, hm, hmm, _, hc⟩
    · simp [Value.cells] at hcs
      exact .inl hcs
    · simp [Value.cells] at hcs
      obtain ⟨rfl, rfl, rfl⟩ := hcs
      exact .inr ⟨a, V, rfl, hl, hm, fun i hi => ⟨(hc i (by simp at hmm; omega)).1, float_cell Try.underlying41 (hc i (by simp at hmm; omega)).2⟩⟩
  obtain ⟨a2, rfl, rfl, rfl, w2⟩ := open_int Try.underlying3 (hval 2 3 v2 rfl rfl) h2
  obtain ⟨a3, rfl, rfl, rfl, w3⟩ := open_int Try.underlying3 (hval 3 3 v3 rfl rfl) h3
  obtain ⟨a4, rfl, rfl, rfl, w4⟩ := open_int Try.underlying3 (hval 4 3 v4 rfl rfl) h4
  obtain ⟨a5, rfl, rfl, rfl, w5⟩ := open_int Try.underlying3 (hval 5 3 v5 rfl rfl) h5
  obtain ⟨a6, rfl, rfl, rfl, w6⟩ := open_int Try.underlying3 (hval 6 3 v6 rfl rfl) h6
  obtain ⟨sq, rfl, rfl, rfl⟩ := open_bool Try.underlying4 (hval 7 4 v7 rfl rfl) h7
  clear hA0 hval0
  refine (walk a0 n0 c0 a1 n1 c1 a2 a3 a4 a5 a6 sq W w0 w1 w2 w3 w4 w5 w6).mono fun e W' ⟨he, bel⟩ => ?_
  subst he
  exact ⟨_, rfl, _, _, _, [], _, [], hW', trodAll_mk1 (shut_bool Try.underlying4 _), (trodAll_cons_mk (Below.trod laidOut (by kernel_rfl) (of_decide_eq_true (by kernel_rfl)) k0 bel lt0) (trodAll_cons_mk (Below.trod laidOut (by kernel_rfl) (of_decide_eq_true (by kernel_rfl)) k1 bel lt1) (trodAll_cons_mk (shut_int Try.underlying3 w2) (trodAll_cons_mk (shut_int Try.underlying3 w3) (trodAll_cons_mk (shut_int Try.underlying3 w4) (trodAll_cons_mk (shut_int Try.underlying3 w5) (trodAll_cons_mk (shut_int Try.underlying3 w6) (trodAll_cons_mk (shut_bool Try.underlying4 sq) trodAll_mk0)))))))), rfl, bel.frame _, fun h => by cases h⟩

theorem over : Rows.fnViewSumsSplitAtAnyCutRow.holds Try.pinned (OpenSpec.ofChange Rows.fnViewSumsSplitAtAnyCutSpec) :=
  OpenClaim.holds_of_wide 4 Try.f4 rfl rfl rfl rfl rfl rfl rfl ⟨rfl, rfl, rfl, rfl, rfl⟩ rfl rfl rfl rfl rfl (by kernel_rfl) Try.func4 (by kernel_rfl)
    (of_decide_eq_true (by kernel_rfl)) (by unfold Func.isWrapper; first | (rw [if_pos (by decide +kernel)]; kernel_rfl) | (rw [if_neg (by decide +kernel)]; exact ⟨rfl, rfl⟩))
    (fun os started H enc _ => lifted os started H enc)

/-- THE STATEMENT. -/
theorem proved : Rows.FnViewSumsSplitAtAnyCutSaid := over
#print axioms proved
end Go.Proofs.Qxb6614701a.fnViewSumsSplitAtAnyCut
