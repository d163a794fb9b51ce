import Derived.Test.Qxb6614701aAdd
namespace Go.Proofs.Qxb6614701a
open Go.RowKit

theorem uval_sq (v : Nat) : uval v true = amt false (Fl.sig (Fl.rung v) * Fl.sig (Fl.rung v)) (2 * Fl.ex (Fl.rung v)) := by
  unfold uval amt Fl.mag
  rw [if_pos rfl, if_neg (by simp), Nat.two_mul, Nat.pow_add, Nat.mul_mul_mul_comm]

theorem uval_pl (v : Nat) : uval v false = amt (Fl.neg v) (Fl.sig (Fl.rung v)) (Fl.ex (Fl.rung v)) := (uval_plain v _ _ rfl).symm

set_option maxHeartbeats 1000000 in
set_option maxRecDepth 100000 in
theorem put25 (S B : Nat) (sq : Bool) (v : Value) (b pd n : Nat) (D : Nat → Int) (x : Nat) (w : World) (h : ES w S B sq v b pd n D) (hbn : b + n ≤ 140) (hpd : pd ≤ 5000)
    (hlim : ∀ i, i < n → -((pd : Int) * 4294967296) ≤ D i ∧ D i ≤ (pd : Int) * 4294967296) (hx : x < 18446744073709551616) (hf : Fl.Fin x) :
    Calls Try.prog 25 #[.pointer (some ⟨S, 0, none⟩), .float .f64 x, .bool false] w (Added w S B sq v (Lm.dv b D n + uval x sq) pd) := by
  have c0 := h.c0
  have hS := h.lt
  obtain ⟨m, hm⟩ : ∃ m, m = Fl.sig (Fl.rung x) := ⟨_, rfl⟩
  obtain ⟨e, he⟩ : ∃ e, e = Fl.ex (Fl.rung x) := ⟨_, rfl⟩
  have lm : m < 9007199254740992 := hm ▸ Fl.sig_lt _
  have le : e ≤ 2045 := he ▸ Fl.ex_le hf
  have HU := units33 x hx w
  unfold Units at HU
  rw [← hm, ← he] at HU
  have HE : Hid (e = Fl.ex (Fl.rung x)) := he
  have HM : Hid (m = Fl.sig (Fl.rung x)) := hm
  clear he hm
  go_enter Try.func25, Try.ntmps25
  go_wp2_with fail
  refine HU.mono ?_
  rintro e1 w1 ⟨rfl, rfl⟩
  clear HU
  cases sq
  · have ha := add35 S B false v b pd n D 0 m e (Fl.neg x) w1 h hbn hpd hlim (by omega) (by omega) (by omega)
    go_wp2_with fail
    refine ha.mono ?_
    rintro e1 w2 hAd
    have e0 := hAd.1
    subst e0
    go_wp2
    go_end0
    rw [uval_pl, ← HM.out, ← HE.out]
    rw [Nat.zero_mul, Nat.zero_add] at hAd
    exact hAd
  · go_wp2_with fail
    refine (mul34 m lm w1).mono ?_
    rintro e1 w2 ⟨hi, lo, rfl, rfl, hN, hlo, hhi⟩
    have HN : Hid (hi * 18446744073709551616 + lo = m * m) := hN
    clear hN
    have ha := add35 S B true v b pd n D hi lo (2 * e) false w2 h hbn hpd hlim hhi hlo (by omega)
    rw [show ((2 * e : Nat) : Int) = 2 * (e : Int) from by omega] at ha
    go_wp2_with fail
    refine ha.mono ?_
    rintro e1 w3 hAd
    have e0 := hAd.1
    subst e0
    go_wp2
    go_end0
    rw [uval_sq, ← HM.out, ← HE.out, ← HN.out]
    exact hAd

end Go.Proofs.Qxb6614701a
