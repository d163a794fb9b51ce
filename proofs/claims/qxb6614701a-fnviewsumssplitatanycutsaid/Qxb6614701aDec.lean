import Derived.Test.Qxb6614701aRows
import Derived.Test.Qxb6614701aFm
import Derived.WalkKit
import Derived.WalkLawsBesides
namespace Go.Proofs.Qxb6614701a
open Go.RowKit

/-- What ieDecompose gives. -/
def Decomp (w : World) (v : Nat) (e : Ending) (w' : World) : Prop :=
  ∃ m s : Nat, e = .returned (.tuple #[.int .u64 m, .int .i64 s]) ∧ w' = w ∧ m < 9007199254740992 ∧ s ≤ 2045 ∧ m * 2 ^ s = Fl.mag v

theorem start_first {a b : Nat} (h : a = b) : a * 2 ^ 0 = b := by rw [h, Nat.pow_zero, Nat.mul_one]

theorem start_second {a b k : Nat} (h : a * 2 ^ k = b) : a * 2 ^ (1074 + k) = b * 2 ^ Fl.K0 := by
  have hK := Fl.K0_eq
  rw [show 1074 + k = k + Fl.K0 from by omega, Nat.pow_add, ← Nat.mul_assoc, h]

theorem end_zero {z v : Nat} (h : Fl.mag z * 2 ^ 0 = Fl.mag v * 2 ^ Fl.K0) : Fl.whole z * 2 ^ 0 = Fl.mag v := by
  rw [Nat.pow_zero, Nat.mul_one] at h ⊢
  unfold Fl.whole
  rw [h, Nat.mul_div_cancel _ (Nat.two_pow_pos _)]

theorem end_whole {z v t : Nat} (he : Fl.whole z * 2 ^ Fl.K0 = Fl.mag z) (h : Fl.mag z * 2 ^ t = Fl.mag v * 2 ^ Fl.K0) : Fl.whole z * 2 ^ t = Fl.mag v := by
  refine Nat.eq_of_mul_eq_mul_right (Nat.two_pow_pos Fl.K0) ?_
  rw [← h, ← he, Nat.mul_assoc, Nat.mul_assoc, Nat.mul_comm (2 ^ t)]

theorem nonzero_of {z : Nat} (he : ¬ Fl.whole z * 2 ^ Fl.K0 = Fl.mag z) : z ≠ 0 := by
  intro h
  subst h
  apply he
  have : Fl.mag 0 = 0 := by simp [Fl.mag, Fl.rung, Fl.sig]
  unfold Fl.whole
  rw [this]
  simp

set_option maxHeartbeats 1600000 in
set_option maxRecDepth 100000 in
theorem decompose26 (v : Nat) (hv : v < 18446744073709551616) (hf : Fl.Fin v) (w : World) : Calls Try.prog 26 #[.float .f64 v] w (Decomp w v) := by
  have e1 := Fl.lss_zero hf
  have e2 := Fl.eql_zero hf
  by_cases h0 : Fl.mag v = 0
  · have e1' : (FloatKind.f64.format.order v 0 == some .lt) = false := by rw [show FloatKind.f64.format = Ieee.double from rfl, e1]; simp [h0]
    have e2' : (FloatKind.f64.format.order v 0 == some .eq) = true := by rw [show FloatKind.f64.format = Ieee.double from rfl, e2]; simp [h0]
    clear e1 e2
    go_enter Try.func26, Try.ntmps26
    go_wp2
    go_ret2
    exact ⟨0, 0, rfl, rfl, by omega, by omega, by rw [h0]⟩
  · cases hn : Fl.neg v
    · have e1' : (FloatKind.f64.format.order v 0 == some .lt) = false := by rw [show FloatKind.f64.format = Ieee.double from rfl, e1, hn]; rfl
      have e2' : (FloatKind.f64.format.order v 0 == some .eq) = false := by rw [show FloatKind.f64.format = Ieee.double from rfl, e2]; simp [h0]
      have hvl : v < 9223372036854775808 := by
        unfold Fl.neg at hn
        simp at hn
        omega
      clear e1 e2 hn
      go_enter Try.func26, Try.ntmps26
      go_wp2
      go_loop [4, 5, 6] (fun x s i => ∃ y k : Nat, x = .float .f64 y ∧ s = .int .i64 (1074 + (k : Int)) ∧ i = .int .i64 k ∧ k ≤ 971 ∧ y < 9223372036854775808 ∧ Fl.Fin y ∧ Hid (Fl.mag y * 2 ^ k = Fl.mag v)) (fun _ _ i => 1100 - (intOf i).toNat)
      case atStart => exact ⟨v, 0, rfl, rfl, rfl, by omega, hvl, hf, start_first rfl⟩
      case round =>
        obtain ⟨y, k, rfl, rfl, rfl, hk, hy, hfy, HM⟩ := hrel
        by_cases hb : 2 ^ Fl.K53 ≤ Fl.mag y
        · have hk2 := Fl.halvings (Fl.mag_lt hf) hb HM.out
          obtain ⟨y2, hq, hy2, hfy2, hm2⟩ := Fl.half hfy hy hb
          have eg' : (FloatKind.f64.format.order y 4845873199050653696 == some .gt || FloatKind.f64.format.order y 4845873199050653696 == some .eq) = true := by rw [show FloatKind.f64.format = Ieee.double from rfl, Fl.geq_53 hfy hy, decide_eq_true hb]
          have hrun : ∀ w, (binOp .quo 41 (.float .f64 y) (.float .f64 4611686018427387904)).run Try.prog w = .ok (.float .f64 y2) w := fun w => run_float_arith w .quo 41 .f64 y _ y2 hq
          have HM2 : Hid (Fl.mag y2 * 2 ^ (k + 1) = Fl.mag v) := by
            have := HM.out
            rw [← hm2, Nat.mul_assoc, ← Nat.pow_succ'] at this
            exact this
          clear hm2 hq hb
          go_wp2
          go_round
          case rel => exact ⟨y2, k + 1, rfl, by go_num, by go_num, by omega, hy2, hfy2, HM2⟩
          case measure => simp [intOf]; omega
        · have eg' : (FloatKind.f64.format.order y 4845873199050653696 == some .gt || FloatKind.f64.format.order y 4845873199050653696 == some .eq) = false := by rw [show FloatKind.f64.format = Ieee.double from rfl, Fl.geq_53 hfy hy, decide_eq_false hb]
          have HB : Hid (Fl.mag y < 2 ^ Fl.K53) := Nat.lt_of_not_le hb
          have HM0 : Hid (Fl.mag y * 2 ^ (1074 + k) = Fl.mag v * 2 ^ Fl.K0) := start_second HM.out
          clear hb
          go_wp2
          go_loop [4, 5] (fun x s => ∃ y t : Nat, x = .float .f64 y ∧ s = .int .i64 t ∧ t ≤ 2045 ∧ y < 9223372036854775808 ∧ Fl.Fin y ∧ Hid (Fl.mag y < 2 ^ Fl.K53) ∧ Hid (Fl.mag y * 2 ^ t = Fl.mag v * 2 ^ Fl.K0)) (fun _ s => (intOf s).toNat)
          case atStart => exact ⟨y, 1074 + k, rfl, by go_num, by omega, hy, hfy, HB, HM0⟩
          case round =>
            obtain ⟨z, t, rfl, rfl, ht, hz, hfz, HZ, HT⟩ := hrel
            have hcv : ∀ w, (convert 41 42 (.float .f64 z)).run Try.prog w = .ok (.int .u64 (Fl.whole z)) w := fun w => run_convert_float_int w 41 42 .f64 .u64 z _ (by rw [Try.underlying41]; rfl) Try.underlying42 (Fl.toU64 hfz hz HZ.out)
            have hwl := Fl.whole_lt HZ.out
            by_cases ht0 : t = 0
            · subst ht0
              have HD : Hid (Fl.whole z * 2 ^ 0 = Fl.mag v) := end_zero HT.out
              go_wp2
              go_ret2
              exact ⟨Fl.whole z, 0, rfl, rfl, hwl, by omega, HD.out⟩
            · obtain ⟨z', hz', hzl', hfz', hmz'⟩ := Fl.ofNat_fin (Fl.whole z) hwl
              have hb' : ∀ w, (convert 42 41 (.int .u64 (Fl.whole z))).run Try.prog w = .ok (.float .f64 z') w := fun w => by rw [← hz']; exact run_convert_int_float w 42 41 .u64 .f64 _ (by rw [Try.underlying42]; rfl) Try.underlying41
              by_cases he : Fl.whole z * 2 ^ Fl.K0 = Fl.mag z
              · have en : (FloatKind.f64.format.order z' z != some .eq) = false := by rw [show FloatKind.f64.format = Ieee.double from rfl, Fl.neq_pos hfz hz hfz' hzl', decide_eq_false (by rw [hmz', he]; simp)]
                have HD : Hid (Fl.whole z * 2 ^ t = Fl.mag v) := end_whole he HT.out
                clear he hz' hmz'
                go_wp2
                go_ret2
                exact ⟨Fl.whole z, t, rfl, rfl, hwl, ht, HD.out⟩
              · have en : (FloatKind.f64.format.order z' z != some .eq) = true := by rw [show FloatKind.f64.format = Ieee.double from rfl, Fl.neq_pos hfz hz hfz' hzl', decide_eq_true (by rw [hmz']; exact he)]
                obtain ⟨z2, hq, hz2, hfz2, hm2⟩ := Fl.dbl hfz hz (nonzero_of he) HZ.out
                have hrun : ∀ w, (binOp .mul 41 (.float .f64 z) (.float .f64 4611686018427387904)).run Try.prog w = .ok (.float .f64 z2) w := fun w => run_float_arith w .mul 41 .f64 z _ z2 hq
                have HZ2 : Hid (Fl.mag z2 < 2 ^ Fl.K53) := by show Fl.mag z2 < _; rw [hm2]; exact Fl.small_of_frac he
                have HT2 : Hid (Fl.mag z2 * 2 ^ (t - 1) = Fl.mag v * 2 ^ Fl.K0) := by
                  show Fl.mag z2 * _ = _
                  rw [hm2, Nat.mul_assoc, ← Nat.pow_succ', show (t - 1).succ = t from by omega]
                  exact HT.out
                clear he hz' hmz' hq hm2
                go_wp2
                go_round
                case rel => exact ⟨z2, t - 1, rfl, by go_num, by omega, hz2, hfz2, HZ2, HT2⟩
                case measure => simp [intOf]; omega
    · have e1' : (FloatKind.f64.format.order v 0 == some .lt) = true := by rw [show FloatKind.f64.format = Ieee.double from rfl, e1, hn]; simp [h0]
      have e3 := Fl.neg_word hv hn
      have hneg : ∀ w, Sem.run Try.prog (Op.unary UnOp.neg (Value.float FloatKind.f64 v)) w = .ok (.float .f64 (Fl.rung v)) w := fun w => by rw [← e3]; rfl
      have e4 := Fl.eql_zero (Fl.fin_rung hf)
      have e2' : (FloatKind.f64.format.order (Fl.rung v) 0 == some .eq) = false := by rw [show FloatKind.f64.format = Ieee.double from rfl, e4, (Fl.mag_rung v).1]; simp [h0]
      have hvl := (Fl.mag_rung v).2.1
      clear e1 e2 e4 e3 hn
      go_enter Try.func26, Try.ntmps26
      go_wp2
      go_loop [4, 5, 6] (fun x s i => ∃ y k : Nat, x = .float .f64 y ∧ s = .int .i64 (1074 + (k : Int)) ∧ i = .int .i64 k ∧ k ≤ 971 ∧ y < 9223372036854775808 ∧ Fl.Fin y ∧ Hid (Fl.mag y * 2 ^ k = Fl.mag v)) (fun _ _ i => 1100 - (intOf i).toNat)
      case atStart => exact ⟨Fl.rung v, 0, rfl, rfl, rfl, by omega, hvl, Fl.fin_rung hf, start_first (Fl.mag_rung v).1⟩
      case round =>
        obtain ⟨y, k, rfl, rfl, rfl, hk, hy, hfy, HM⟩ := hrel
        by_cases hb : 2 ^ Fl.K53 ≤ Fl.mag y
        · have hk2 := Fl.halvings (Fl.mag_lt hf) hb HM.out
          obtain ⟨y2, hq, hy2, hfy2, hm2⟩ := Fl.half hfy hy hb
          have eg' : (FloatKind.f64.format.order y 4845873199050653696 == some .gt || FloatKind.f64.format.order y 4845873199050653696 == some .eq) = true := by rw [show FloatKind.f64.format = Ieee.double from rfl, Fl.geq_53 hfy hy, decide_eq_true hb]
          have hrun : ∀ w, (binOp .quo 41 (.float .f64 y) (.float .f64 4611686018427387904)).run Try.prog w = .ok (.float .f64 y2) w := fun w => run_float_arith w .quo 41 .f64 y _ y2 hq
          have HM2 : Hid (Fl.mag y2 * 2 ^ (k + 1) = Fl.mag v) := by
            have := HM.out
            rw [← hm2, Nat.mul_assoc, ← Nat.pow_succ'] at this
            exact this
          clear hm2 hq hb
          go_wp2
          go_round
          case rel => exact ⟨y2, k + 1, rfl, by go_num, by go_num, by omega, hy2, hfy2, HM2⟩
          case measure => simp [intOf]; omega
        · have eg' : (FloatKind.f64.format.order y 4845873199050653696 == some .gt || FloatKind.f64.format.order y 4845873199050653696 == some .eq) = false := by rw [show FloatKind.f64.format = Ieee.double from rfl, Fl.geq_53 hfy hy, decide_eq_false hb]
          have HB : Hid (Fl.mag y < 2 ^ Fl.K53) := Nat.lt_of_not_le hb
          have HM0 : Hid (Fl.mag y * 2 ^ (1074 + k) = Fl.mag v * 2 ^ Fl.K0) := start_second HM.out
          clear hb
          go_wp2
          go_loop [4, 5] (fun x s => ∃ y t : Nat, x = .float .f64 y ∧ s = .int .i64 t ∧ t ≤ 2045 ∧ y < 9223372036854775808 ∧ Fl.Fin y ∧ Hid (Fl.mag y < 2 ^ Fl.K53) ∧ Hid (Fl.mag y * 2 ^ t = Fl.mag v * 2 ^ Fl.K0)) (fun _ s => (intOf s).toNat)
          case atStart => exact ⟨y, 1074 + k, rfl, by go_num, by omega, hy, hfy, HB, HM0⟩
          case round =>
            obtain ⟨z, t, rfl, rfl, ht, hz, hfz, HZ, HT⟩ := hrel
            have hcv : ∀ w, (convert 41 42 (.float .f64 z)).run Try.prog w = .ok (.int .u64 (Fl.whole z)) w := fun w => run_convert_float_int w 41 42 .f64 .u64 z _ (by rw [Try.underlying41]; rfl) Try.underlying42 (Fl.toU64 hfz hz HZ.out)
            have hwl := Fl.whole_lt HZ.out
            by_cases ht0 : t = 0
            · subst ht0
              have HD : Hid (Fl.whole z * 2 ^ 0 = Fl.mag v) := end_zero HT.out
              go_wp2
              go_ret2
              exact ⟨Fl.whole z, 0, rfl, rfl, hwl, by omega, HD.out⟩
            · obtain ⟨z', hz', hzl', hfz', hmz'⟩ := Fl.ofNat_fin (Fl.whole z) hwl
              have hb' : ∀ w, (convert 42 41 (.int .u64 (Fl.whole z))).run Try.prog w = .ok (.float .f64 z') w := fun w => by rw [← hz']; exact run_convert_int_float w 42 41 .u64 .f64 _ (by rw [Try.underlying42]; rfl) Try.underlying41
              by_cases he : Fl.whole z * 2 ^ Fl.K0 = Fl.mag z
              · have en : (FloatKind.f64.format.order z' z != some .eq) = false := by rw [show FloatKind.f64.format = Ieee.double from rfl, Fl.neq_pos hfz hz hfz' hzl', decide_eq_false (by rw [hmz', he]; simp)]
                have HD : Hid (Fl.whole z * 2 ^ t = Fl.mag v) := end_whole he HT.out
                clear he hz' hmz'
                go_wp2
                go_ret2
                exact ⟨Fl.whole z, t, rfl, rfl, hwl, ht, HD.out⟩
              · have en : (FloatKind.f64.format.order z' z != some .eq) = true := by rw [show FloatKind.f64.format = Ieee.double from rfl, Fl.neq_pos hfz hz hfz' hzl', decide_eq_true (by rw [hmz']; exact he)]
                obtain ⟨z2, hq, hz2, hfz2, hm2⟩ := Fl.dbl hfz hz (nonzero_of he) HZ.out
                have hrun : ∀ w, (binOp .mul 41 (.float .f64 z) (.float .f64 4611686018427387904)).run Try.prog w = .ok (.float .f64 z2) w := fun w => run_float_arith w .mul 41 .f64 z _ z2 hq
                have HZ2 : Hid (Fl.mag z2 < 2 ^ Fl.K53) := by show Fl.mag z2 < _; rw [hm2]; exact Fl.small_of_frac he
                have HT2 : Hid (Fl.mag z2 * 2 ^ (t - 1) = Fl.mag v * 2 ^ Fl.K0) := by
                  show Fl.mag z2 * _ = _
                  rw [hm2, Nat.mul_assoc, ← Nat.pow_succ', show (t - 1).succ = t from by omega]
                  exact HT.out
                clear he hz' hmz' hq hm2
                go_wp2
                go_round
                case rel => exact ⟨z2, t - 1, rfl, by go_num, by omega, hz2, hfz2, HZ2, HT2⟩
                case measure => simp [intOf]; omega

end Go.Proofs.Qxb6614701a
