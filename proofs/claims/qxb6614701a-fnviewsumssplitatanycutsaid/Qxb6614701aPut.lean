import Derived.Test.Qxb6614701aMat
import Derived.Deep.QuietTactic
import Derived.BigQuiet
import Derived.BigRegion
import Derived.Deep.Cut
namespace Go.Proofs.Qxb6614701a
open Go.RowKit

/-- What units gives: the word's parts. -/
def Units (w : World) (v : Nat) (e : Ending) (w' : World) : Prop :=
  e = .returned (.tuple #[.int .u64 (Fl.sig (Fl.rung v)), .int .i64 (Fl.ex (Fl.rung v)), .bool (Fl.neg v)]) ∧ w' = w

theorem parts_zero (v : Nat) (hE : v / 4503599627370496 % 2048 = 0) : Fl.sig (Fl.rung v) = v % 4503599627370496 ∧ Fl.ex (Fl.rung v) = 0 := by
  have hr : Fl.rung v < 4503599627370496 := by unfold Fl.rung; omega
  unfold Fl.sig Fl.ex
  rw [if_pos hr, if_pos hr]
  unfold Fl.rung at *
  omega

theorem parts_norm (v : Nat) (hE : ¬ v / 4503599627370496 % 2048 = 0) : Fl.sig (Fl.rung v) = v % 4503599627370496 + 4503599627370496 ∧ Fl.ex (Fl.rung v) + 1 = v / 4503599627370496 % 2048 := by
  have hr : ¬ Fl.rung v < 4503599627370496 := by unfold Fl.rung; omega
  unfold Fl.sig Fl.ex
  rw [if_neg hr, if_neg hr]
  unfold Fl.rung at *
  omega

theorem floatbits36 (v : Nat) (w : World) : (callFunc 36 #[.float .f64 v]).run Try.prog w = .ok (.value (.int .u64 v)) w := by
  rw [run_callFunc_extern (e := Extern.MathFloatBits.float64bits) Try.func36 (by kernel_rfl) (by kernel_rfl) (by kernel_rfl) (by kernel_rfl)]
  rfl

set_option maxRecDepth 100000 in
theorem units33 (v : Nat) (hv : v < 18446744073709551616) (w : World) : Calls Try.prog 33 #[.float .f64 v] w (Units w v) := by
  obtain ⟨M0, hM0⟩ : ∃ M : Nat, M = v % 4503599627370496 := ⟨_, rfl⟩
  obtain ⟨E, hE⟩ : ∃ E : Nat, E = v / 4503599627370496 % 2048 := ⟨_, rfl⟩
  have l0 : M0 < 4503599627370496 := by omega
  have l1 : E < 2048 := by omega
  have q0 : bits BinOp.and IntKind.u64 (v : Int) 4503599627370495 = (M0 : Int) := by
    rw [hM0, show (4503599627370495 : Int) = ((4503599627370495 : Nat) : Int) from rfl, u64_and_nat _ _ hv (by omega), show (4503599627370495 : Nat) = 2 ^ 52 - 1 from rfl, Nat.and_two_pow_sub_one_eq_mod]
  have q1 : bits BinOp.and IntKind.u64 ((v : Int) / 4503599627370496) 2047 = (E : Int) := by
    rw [hE, show ((v : Int) / 4503599627370496) = ((v / 4503599627370496 : Nat) : Int) from by omega, show (2047 : Int) = ((2047 : Nat) : Int) from rfl, u64_and_nat _ _ (by omega) (by omega), show (2047 : Nat) = 2 ^ 11 - 1 from rfl, Nat.and_two_pow_sub_one_eq_mod]
  have q2 : bits BinOp.or IntKind.u64 (M0 : Int) 4503599627370496 = (M0 : Int) + 4503599627370496 := by
    rw [show (4503599627370496 : Int) = ((4503599627370496 : Nat) : Int) from rfl, u64_or_nat _ _ (by omega) (by omega), Nat.or_comm, nat_join 52 4503599627370496 M0 (by decide) (by omega)]
    omega
  have q3 : (((v : Int) / 9223372036854775808) == 1) = Fl.neg v := by
    unfold Fl.neg
    rw [Bool.eq_iff_iff]
    simp
    omega
  have hx := fun w => floatbits36 v w
  by_cases h0 : E = 0
  · have h0' : ((E : Int) == 0) = true := by simp; omega
    have hp := parts_zero v (by omega)
    rw [← hM0] at hp
    have HP : Hid (Fl.sig (Fl.rung v) = M0 ∧ Fl.ex (Fl.rung v) = 0) := hp
    clear hM0 hE h0 hp
    go_enter Try.func33, Try.ntmps33
    go_wp2
    go_ret3
    exact ⟨by rw [HP.out.1, HP.out.2]; rfl, rfl⟩
  · have h0' : ((E : Int) == 0) = false := by simp; omega
    have hp := parts_norm v (by omega)
    rw [← hM0, ← hE] at hp
    have HP : Hid (Fl.sig (Fl.rung v) = M0 + 4503599627370496 ∧ Fl.ex (Fl.rung v) + 1 = E) := hp
    have hE1 : 0 < E := by omega
    clear hM0 hE h0 hp
    go_enter Try.func33, Try.ntmps33
    go_wp2
    go_ret3
    have e1 := HP.out.1
    have e2 := HP.out.2
    refine ⟨?_, rfl⟩
    rw [e1, show ((Fl.ex (Fl.rung v) : Nat) : Int) = (E : Int) - 1 from by omega, Int.natCast_add]
    rfl

/-- What Mul64 gives of a significand and herself. -/
def Squared (w : World) (m : Nat) (e : Ending) (w' : World) : Prop :=
  ∃ hi lo : Nat, e = .returned (.tuple #[.int .u64 hi, .int .u64 lo]) ∧ w' = w ∧ hi * 18446744073709551616 + lo = m * m ∧ lo < 18446744073709551616 ∧ hi < 4398046511104

theorem lt_mul {a b x y : Nat} (h1 : a < x) (h2 : b < y) : a * b < x * y := Nat.mul_lt_mul'' h1 h2

set_option maxRecDepth 100000 in
theorem mul34 (m : Nat) (hm : m < 9007199254740992) (w : World) : Calls Try.prog 34 #[.int .u64 m, .int .u64 m] w (Squared w m) := by
  obtain ⟨a0, ha0⟩ : ∃ a0 : Nat, a0 = m % 4294967296 := ⟨_, rfl⟩
  obtain ⟨a1, ha1⟩ : ∃ a1 : Nat, a1 = m / 4294967296 := ⟨_, rfl⟩
  have l0 : a0 < 4294967296 := by omega
  have l1 : a1 < 2097152 := by omega
  obtain ⟨A, hA⟩ : ∃ A : Nat, A = a0 * a0 := ⟨_, rfl⟩
  obtain ⟨B, hB⟩ : ∃ B : Nat, B = a1 * a0 := ⟨_, rfl⟩
  obtain ⟨C, hC⟩ : ∃ C : Nat, C = a1 * a1 := ⟨_, rfl⟩
  obtain ⟨N, hN⟩ : ∃ N : Nat, N = m * m := ⟨_, rfl⟩
  have lA : A < 18446744073709551616 := by rw [hA]; exact Nat.lt_of_lt_of_le (lt_mul l0 l0) (by omega)
  have lB : B < 9007199254740992 := by rw [hB]; exact Nat.lt_of_lt_of_le (lt_mul l1 l0) (by omega)
  have lC : C < 4398046511104 := by rw [hC]; exact Nat.lt_of_lt_of_le (lt_mul l1 l1) (by omega)
  have hsum : N = C * 18446744073709551616 + 2 * B * 4294967296 + A := by
    have hm' : m = a0 + a1 * 4294967296 := by omega
    rw [hN, hA, hB, hC, hm', Nat.add_mul, Nat.mul_add, Nat.mul_add, Nat.mul_mul_mul_comm a1 _ a1, Nat.mul_comm a0 (a1 * 4294967296), Nat.mul_right_comm a1 4294967296 a0]
    generalize a0 * a0 = x
    generalize a1 * a0 = y
    generalize a1 * a1 = z
    omega
  have q0 : bits BinOp.and IntKind.u64 (m : Int) 4294967295 = (a0 : Int) := by
    rw [ha0, show (4294967295 : Int) = ((4294967295 : Nat) : Int) from rfl, u64_and_nat _ _ (by omega) (by omega), show (4294967295 : Nat) = 2 ^ 32 - 1 from rfl, Nat.and_two_pow_sub_one_eq_mod]
  have q1 : (m : Int) / 4294967296 = (a1 : Int) := by omega
  have k00 : IntKind.u64.wrap ((a0 : Int) * (a0 : Int)) = (A : Int) := by rw [IntKind.wrap_u64, ← Int.natCast_mul, ← hA]; omega
  have k10 : IntKind.u64.wrap ((a1 : Int) * (a0 : Int)) = (B : Int) := by rw [IntKind.wrap_u64, ← Int.natCast_mul, ← hB]; omega
  have k01 : IntKind.u64.wrap ((a0 : Int) * (a1 : Int)) = (B : Int) := by rw [Int.mul_comm]; exact k10
  have k11 : IntKind.u64.wrap ((a1 : Int) * (a1 : Int)) = (C : Int) := by rw [IntKind.wrap_u64, ← Int.natCast_mul, ← hC]; omega
  obtain ⟨LO, hLO⟩ : ∃ L : Nat, L = N % 18446744073709551616 := ⟨_, rfl⟩
  have klo : IntKind.u64.wrap ((m : Int) * (m : Int)) = (LO : Int) := by rw [IntKind.wrap_u64, ← Int.natCast_mul, ← hN]; omega
  obtain ⟨T, hT⟩ : ∃ T : Nat, T = B + A / 4294967296 := ⟨_, rfl⟩
  have kT : IntKind.u64.wrap ((B : Int) + (A : Int) / 4294967296) = (T : Int) := by rw [IntKind.wrap_u64]; omega
  have kT0 : bits BinOp.and IntKind.u64 (T : Int) 4294967295 = ((T % 4294967296 : Nat) : Int) := by
    rw [show (4294967295 : Int) = ((4294967295 : Nat) : Int) from rfl, u64_and_nat _ _ (by omega) (by omega), show (4294967295 : Nat) = 2 ^ 32 - 1 from rfl, Nat.and_two_pow_sub_one_eq_mod]
  obtain ⟨T0, hT0⟩ : ∃ T0 : Nat, T0 = T % 4294967296 := ⟨_, rfl⟩
  rw [← hT0] at kT0
  obtain ⟨W1, hW1⟩ : ∃ W : Nat, W = T0 + B := ⟨_, rfl⟩
  have kW : IntKind.u64.wrap ((T0 : Int) + (B : Int)) = (W1 : Int) := by rw [IntKind.wrap_u64]; omega
  obtain ⟨H1, hH1⟩ : ∃ H : Nat, H = C + T / 4294967296 := ⟨_, rfl⟩
  have kH1 : IntKind.u64.wrap ((C : Int) + (T : Int) / 4294967296) = (H1 : Int) := by rw [IntKind.wrap_u64]; omega
  obtain ⟨H2, hH2⟩ : ∃ H : Nat, H = H1 + W1 / 4294967296 := ⟨_, rfl⟩
  have kH2 : IntKind.u64.wrap ((H1 : Int) + (W1 : Int) / 4294967296) = (H2 : Int) := by rw [IntKind.wrap_u64]; omega
  have HF : Hid (H2 * 18446744073709551616 + LO = m * m ∧ LO < 18446744073709551616 ∧ H2 < 4398046511104 * 2) := by
    refine ⟨?_, by omega, by omega⟩
    rw [← hN]
    omega
  have hN2 : N < 81129638414606681695789005144064 := by rw [hN]; exact Nat.lt_of_lt_of_le (lt_mul hm hm) (by omega)
  have HF3 : Hid (H2 < 4398046511104) := by show H2 < _; omega
  clear ha0 ha1 hA hB hC hN hsum hLO hT hT0 hW1 hH1 hH2 lA lB lC hN2
  go_enter Try.func34, Try.ntmps34
  go_wp2
  go_ret2
  exact ⟨H2, LO, rfl, rfl, HF.out.1, HF.out.2.1, HF3.out⟩

end Go.Proofs.Qxb6614701a
