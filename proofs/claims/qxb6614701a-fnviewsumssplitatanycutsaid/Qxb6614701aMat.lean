import Derived.Test.Qxb6614701aDec
import Derived.Test.Qxb6614701aLm
import Derived.Deep.OwnRows
import Derived.Laws.BitsAllLaws
namespace Go.Proofs.Qxb6614701a
open Go.RowKit

/-- At most block b has been written. -/
structure Only (b : Nat) (w w' : World) : Prop where
  os : w'.os = w.os
  tape : w'.tape = w.tape
  output : w'.output = w.output
  size : w'.heap.size = w.heap.size
  block : ∀ k, k ≠ b → w'.heap[k]? = w.heap[k]?

theorem Only.refl (b : Nat) (w : World) : Only b w w := ⟨rfl, rfl, rfl, rfl, fun _ _ => rfl⟩
theorem Only.trans {b : Nat} {x y z : World} (h : Only b x y) (k : Only b y z) : Only b x z :=
  ⟨k.os.trans h.os, k.tape.trans h.tape, k.output.trans h.output, k.size.trans h.size, fun i hi => (k.block i hi).trans (h.block i hi)⟩
theorem Only.set {b : Nat} {x w : World} (h : Only b x w) (j : Nat) (v : Value) : Only b x (w.setCell ⟨b, j, none⟩ v) :=
  h.trans ⟨rfl, rfl, rfl, by simp [World.setCell], fun k hk => Below.heap_setCell _ _ _ _ (by show k ≠ b; exact hk)⟩
theorem Only.drew {b : Nat} {x w : World} (h : Only b x w) : Only b x w.drew := ⟨h.os, h.tape, h.output, h.size, h.block⟩
theorem Only.below {b B : Nat} {w w' : World} (h : Only b w w') (hB : B ≤ b) : Below B w w' :=
  ⟨h.os, h.tape, h.output, by rw [h.size]; exact Nat.le_refl _, fun k hk => h.block k (by omega)⟩
theorem Only.cell {b : Nat} {w w' : World} (h : Only b w w') {p : Addr} (hp : p.block ≠ b) : w'.cell? p = w.cell? p := World.cell?_of_block (w := w) (h.block p.block hp)

/-- Block b is a row of n limbs. -/
def Limbs (w : World) (b n : Nat) (g : Nat → Int) : Prop := w.rowIs b 2 n (fun j => .int .i64 (g j))

theorem Limbs.set {w : World} {b n : Nat} {g : Nat → Int} (h : Limbs w b n g) (i : Nat) (v : Int) : Limbs (w.setCell ⟨b, i, none⟩ (.int .i64 v)) b n (Lm.upd g i v) :=
  (World.rowIs.set h i _).congr (fun j _ => by unfold Lm.upd; by_cases e : j = i <;> simp [e])
theorem Limbs.drew {w : World} {b n : Nat} {g : Nat → Int} (h : Limbs w b n g) : Limbs w.drew b n g := h
theorem Limbs.cell {w : World} {b n : Nat} {g : Nat → Int} (h : Limbs w b n g) {i : Nat} (hi : i < n) : w.cell? ⟨b, i, none⟩ = some (.int .i64 (g i)) := World.rowIs.cell h hi
theorem Limbs.frozen {w : World} {b n : Nat} {g : Nat → Int} (h : Limbs w b n g) (i : Nat) : w.frozen? ⟨b, i, none⟩ = false := World.rowIs.frozen h i

/-- What ieNorm leaves. -/
def NormOk (w : World) (b : Nat) (g : Nat → Int) (e : Ending) (w' : World) : Prop :=
  e = .returned (.tuple #[]) ∧ ∃ g', Limbs w' b 140 g' ∧ Only b w w' ∧ Lm.Canon g' 139 ∧ Lm.tot g' 140 = Lm.tot g 140

set_option maxHeartbeats 400000 in
set_option maxRecDepth 100000 in
theorem norm21 (b : Nat) (g : Nat → Int) (w : World) (h : Limbs w b 140 g) (hM : Lm.Within g 140 1125899906842624) :
    Calls Try.prog 21 #[.slice (some ⟨b, 0, none⟩) 140 140] w (NormOk w b g) := by
  go_enter Try.func21, Try.ntmps21
  go_wp2
  go_loopw [2] (fun si wr => ∃ (k : Nat) (gc : Nat → Int), k ≤ 139 ∧ si = .int .i64 k ∧ Limbs wr b 140 gc ∧ Only b w wr ∧ Hid (Lm.tot gc 140 = Lm.tot g 140 ∧ Lm.Normed gc k 2251799813685248 ∧ ∀ j, k < j → j < 140 → -1125899906842624 ≤ gc j ∧ gc j ≤ 1125899906842624)) (fun si _ => 139 - (intOf si).toNat)
  case atStart => exact ⟨0, g, by omega, rfl, h, Only.refl _ _, rfl, ⟨fun j hj => by omega, fun j _ hj => by have := hM j hj; omega⟩, fun j _ hj => hM j hj⟩
  case round =>
    obtain ⟨k, gc, hk, rfl, hL, hO, HN⟩ := hrel
    by_cases hlt : k < 139
    · obtain ⟨hN1, hN2, hN3⟩ := HN.out
      have hb0 := hN2.high k (Nat.le_refl _) (by omega)
      have hb1 := hN3 (k + 1) (by omega) (by omega)
      have c0 := hL.cell (i := k) (by omega)
      have f0 := hL.frozen k
      have c1 := hL.cell (i := k + 1) (by omega)
      have f1 := hL.frozen (k + 1)
      have hL' : Limbs _ b 140 (Lm.carry1 gc k) := (hL.set k (gc k - gc k / 4294967296 * 4294967296)).set (k + 1) (gc (k + 1) + gc k / 4294967296)
      have hO' := (hO.set k (.int .i64 (gc k - gc k / 4294967296 * 4294967296))).set (k + 1) (.int .i64 (gc (k + 1) + gc k / 4294967296))
      have HN' : Hid (Lm.tot (Lm.carry1 gc k) 140 = Lm.tot g 140 ∧ Lm.Normed (Lm.carry1 gc k) (k + 1) 2251799813685248 ∧ ∀ j, k + 1 < j → j < 140 → -1125899906842624 ≤ Lm.carry1 gc k j ∧ Lm.carry1 gc k j ≤ 1125899906842624) :=
        ⟨(Lm.carry1_tot gc k 140 (by omega)).trans hN1, Lm.normed_step (B := 1125899906842624) hN2 hN3 (by omega) (by omega)⟩
      clear HN hN1 hN2 hN3
      go_wp2
      go_roundw
      case rel => exact ⟨k + 1, _, by omega, by go_num, hL', hO', HN'⟩
      case measure => simp [intOf]; omega
    · obtain rfl : k = 139 := by omega
      go_wp2
      go_end0
      exact ⟨rfl, gc, hL, hO, HN.out.2.1.low, HN.out.1⟩

/-- What ieAddShifted leaves: the row stands for 'd' more. -/
def AddOk (w : World) (b : Nat) (g : Nat → Int) (d M : Int) (e : Ending) (w' : World) : Prop :=
  e = .returned (.tuple #[]) ∧ ∃ g', Limbs w' b 140 g' ∧ Only b w w' ∧ Lm.tot g' 140 = Lm.tot g 140 + d ∧ Lm.Within g' 140 M

/-- The value shifted by less than a limb, in three limbs, as the text reckons them. -/
theorem pieces (val r : Nat) (hv : val < 18446744073709551616) (hr : r < 32) : ∃ lo p0 p1 p2 : Nat, IntKind.u64.wrap ((val : Int) * 2 ^ r) = (lo : Int) ∧ bits BinOp.and IntKind.u64 (lo : Int) 4294967295 = (p0 : Int) ∧
    (lo : Int) / 4294967296 = (p1 : Int) ∧ (val : Int) / 2 ^ (64 - r) = (p2 : Int) ∧ p0 < 4294967296 ∧ p1 < 4294967296 ∧ p2 < 4294967296 ∧ lo < 18446744073709551616 ∧
    (p0 : Int) + (p1 : Int) * 4294967296 + (p2 : Int) * 18446744073709551616 = ((val * 2 ^ r : Nat) : Int) := by
  have hp : 2 ^ r * 2 ^ (64 - r) = 18446744073709551616 := by rw [← Nat.pow_add, show r + (64 - r) = 64 from by omega]
  have h31 : 2 ^ r ≤ 2147483648 := by
    have : 2 ^ r ≤ 2 ^ 31 := Nat.pow_le_pow_right (by omega) (by omega)
    omega
  have hpos : 0 < 2 ^ (64 - r) := Nat.two_pow_pos _
  have htop : val / 2 ^ (64 - r) = val * 2 ^ r / 18446744073709551616 := by
    rw [← hp, Nat.mul_comm (2 ^ r), Nat.mul_div_mul_right _ _ (Nat.two_pow_pos r)]
  have e1 : ((val : Int) * 2 ^ r) = ((val * 2 ^ r : Nat) : Int) := by simp
  have e2 : ((val : Int) / 2 ^ (64 - r)) = ((val / 2 ^ (64 - r) : Nat) : Int) := by simp
  have hV : val * 2 ^ r < 18446744073709551616 * 2147483648 := Nat.lt_of_lt_of_le (Nat.mul_lt_mul_of_pos_right hv (Nat.two_pow_pos r)) (Nat.mul_le_mul_left _ h31)
  refine ⟨val * 2 ^ r % 18446744073709551616, val * 2 ^ r % 18446744073709551616 % 4294967296, val * 2 ^ r % 18446744073709551616 / 4294967296, val * 2 ^ r / 18446744073709551616, ?_, ?_, ?_, ?_, ?_, ?_, ?_, ?_, ?_⟩
  · rw [e1, IntKind.wrap_u64]; omega
  · rw [show (4294967295 : Int) = ((4294967295 : Nat) : Int) from rfl, u64_and_nat _ _ (Nat.mod_lt _ (by omega)) (by omega), show (4294967295 : Nat) = 2 ^ 32 - 1 from rfl, Nat.and_two_pow_sub_one_eq_mod]
  · omega
  · rw [e2, htop]
  · omega
  · omega
  · omega
  · omega
  · omega

theorem add_end (val sh : Nat) (g : Nat → Int) (p0 p1 p2 : Nat) (hs : sh < 4384) (hp : (p0 : Int) + (p1 : Int) * 4294967296 + (p2 : Int) * 18446744073709551616 = ((val * 2 ^ (sh % 32) : Nat) : Int)) :
    Lm.tot (Lm.add3 g (sh / 32) p0 p1 p2) 140 = Lm.tot g 140 + ((val * 2 ^ sh : Nat) : Int) := by
  rw [Lm.add3_tot _ _ _ _ _ _ (by omega), hp, ← Lm.shift_cut val sh, Int.natCast_mul (val * 2 ^ (sh % 32))]

theorem sub_end (val sh : Nat) (g : Nat → Int) (p0 p1 p2 : Nat) (hs : sh < 4384) (hp : (p0 : Int) + (p1 : Int) * 4294967296 + (p2 : Int) * 18446744073709551616 = ((val * 2 ^ (sh % 32) : Nat) : Int)) :
    Lm.tot (Lm.add3 g (sh / 32) (-p0) (-p1) (-p2)) 140 = Lm.tot g 140 + -((val * 2 ^ sh : Nat) : Int) := by
  rw [Lm.add3_tot _ _ _ _ _ _ (by omega), ← Lm.shift_cut val sh, Int.natCast_mul (val * 2 ^ (sh % 32)), ← hp, ← Int.neg_mul]
  congr 2
  omega

theorem add3_ok {w : World} {b : Nat} {g : Nat → Int} {M : Int} (h : Limbs w b 140 g) (hM : Lm.Within g 140 M) (q : Nat) (hq : q + 2 < 140) (x y z : Int) (hx : -4294967296 ≤ x ∧ x ≤ 4294967296) (hy : -4294967296 ≤ y ∧ y ≤ 4294967296) (hz : -4294967296 ≤ z ∧ z ≤ 4294967296)
    (d : Int) (ht : Lm.tot (Lm.add3 g q x y z) 140 = Lm.tot g 140 + d) :
    AddOk w b g d (M + 4294967296) (.returned (.tuple #[])) (((w.setCell ⟨b, q, none⟩ (.int .i64 (g q + x))).setCell ⟨b, q + 1, none⟩ (.int .i64 (g (q + 1) + y))).setCell ⟨b, q + 2, none⟩ (.int .i64 (g (q + 2) + z))) :=
  ⟨rfl, _, ((h.set q _).set (q + 1) _).set (q + 2) _, (((Only.refl _ _).set q _).set (q + 1) _).set (q + 2) _, ht, Lm.add3_within hM q x y z hq hx hy hz⟩

/-- The amount, with its sign. -/
def amt (ng : Bool) (val sh : Nat) : Int := if ng then -((val * 2 ^ sh : Nat) : Int) else ((val * 2 ^ sh : Nat) : Int)

set_option maxHeartbeats 400000 in
set_option maxRecDepth 100000 in
theorem addShifted27 (b val sh : Nat) (ng : Bool) (g : Nat → Int) (M : Int) (w : World) (h : Limbs w b 140 g) (hM : Lm.Within g 140 M) (hM2 : M ≤ 1125899906842624) (hv : val < 18446744073709551616) (hs : sh < 4384) :
    Calls Try.prog 27 #[.slice (some ⟨b, 0, none⟩) 140 140, .int .i64 0, .int .u64 val, .int .i64 sh, .bool ng] w (AddOk w b g (amt ng val sh) (M + 4294967296)) := by
  have c0 := h.cell (i := sh / 32) (by omega)
  have f0 := h.frozen (sh / 32)
  have c1 := h.cell (i := sh / 32 + 1) (by omega)
  have f1 := h.frozen (sh / 32 + 1)
  have c2 := h.cell (i := sh / 32 + 2) (by omega)
  have f2 := h.frozen (sh / 32 + 2)
  have b0 := hM (sh / 32) (by omega)
  have b1 := hM (sh / 32 + 1) (by omega)
  have b2 := hM (sh / 32 + 2) (by omega)
  obtain ⟨lo, p0, p1, p2, q1, q2, q3, q4, l0, l1, l2, l3, hsum⟩ := pieces val (sh % 32) hv (by omega)
  have HS : Hid ((p0 : Int) + (p1 : Int) * 4294967296 + (p2 : Int) * 18446744073709551616 = ((val * 2 ^ (sh % 32) : Nat) : Int)) := hsum
  clear hsum
  by_cases hr : sh % 32 = 0
  · have hr' : decide ((0 : Int) < (sh : Int) % 32) = false := by simp; omega
    have hp2 : p2 = 0 := by
      rw [hr, show ((2 : Int) ^ (64 - 0)) = 18446744073709551616 from by decide] at q4
      omega
    subst hp2
    clear hr
    cases ng
    · go_enter Try.func27, Try.ntmps27
      go_wp2
      go_end0
      have := add3_ok h hM (sh / 32) (by omega) p0 p1 ((0 : Nat) : Int) (by omega) (by omega) (by omega) (amt false val sh) (add_end val sh g p0 p1 0 hs HS.out)
      simpa using this
    · go_enter Try.func27, Try.ntmps27
      go_wp2
      go_end0
      have := add3_ok h hM (sh / 32) (by omega) (-p0) (-p1) (-((0 : Nat) : Int)) (by omega) (by omega) (by omega) (amt true val sh) (sub_end val sh g p0 p1 0 hs HS.out)
      simpa using this
  · have hr' : (0 : Int) < (sh : Int) % 32 := by omega
    clear hr
    cases ng
    · go_enter Try.func27, Try.ntmps27
      go_wp2
      go_end0
      exact add3_ok h hM (sh / 32) (by omega) p0 p1 p2 (by omega) (by omega) (by omega) (amt false val sh) (add_end val sh g p0 p1 p2 hs HS.out)
    · go_enter Try.func27, Try.ntmps27
      go_wp2
      go_end0
      exact add3_ok h hM (sh / 32) (by omega) (-p0) (-p1) (-p2) (by omega) (by omega) (by omega) (amt true val sh) (sub_end val sh g p0 p1 p2 hs HS.out)

/-- What a value adds, in units (of 2^-1074, or of 2^-2148 for the square). -/
def uval (v : Nat) (sq : Bool) : Int := if sq then ((Fl.mag v * Fl.mag v : Nat) : Int) else if Fl.neg v then -(Fl.mag v : Int) else (Fl.mag v : Int)

theorem sign_of (v : Nat) (hf : Fl.Fin v) (h0 : ¬ Fl.mag v = 0) : (FloatKind.f64.format.order v 0 == some Ordering.lt) = Fl.neg v := by
  rw [show FloatKind.f64.format = Ieee.double from rfl, Fl.lss_zero hf]
  simp [h0]

theorem uval_plain (v m s : Nat) (h : m * 2 ^ s = Fl.mag v) : amt (Fl.neg v) m s = uval v false := by
  unfold amt uval
  rw [h]
  rfl

/-- The square of a significand in three shifted pieces. -/
theorem square_nat (s a0 a1 : Nat) : a0 * a0 * 2 ^ (2 * s) + 2 * a1 * a0 * 2 ^ (2 * s + 32) + a1 * a1 * 2 ^ (2 * s + 64) = (a0 + a1 * 4294967296) * 2 ^ s * ((a0 + a1 * 4294967296) * 2 ^ s) := by
  rw [Nat.pow_add, Nat.pow_add, Nat.two_mul s, Nat.pow_add]
  generalize 2 ^ s = P
  have e1 : (a0 + a1 * 4294967296) * P * ((a0 + a1 * 4294967296) * P) = (a0 + a1 * 4294967296) * (a0 + a1 * 4294967296) * (P * P) := Nat.mul_mul_mul_comm _ _ _ _
  have e2 : (a0 + a1 * 4294967296) * (a0 + a1 * 4294967296) = a0 * a0 + 2 * a1 * a0 * 4294967296 + a1 * a1 * 18446744073709551616 := by
    rw [Nat.add_mul, Nat.mul_add, Nat.mul_add, Nat.mul_mul_mul_comm a1 _ a1, Nat.mul_comm a0 (a1 * 4294967296), Nat.mul_right_comm a1 4294967296 a0, Nat.mul_assoc 2 a1 a0]
    generalize a0 * a0 = x
    generalize a1 * a0 = y
    generalize a1 * a1 = z
    omega
  rw [e1, e2, Nat.add_mul, Nat.add_mul]
  generalize P * P = Q
  generalize a0 * a0 = x
  generalize 2 * a1 * a0 = y
  generalize a1 * a1 = z
  rw [Nat.mul_comm Q (2 ^ 32), Nat.mul_comm Q (2 ^ 64), ← Nat.mul_assoc, ← Nat.mul_assoc]

theorem uval_square (v m s : Nat) (h : m * 2 ^ s = Fl.mag v) (a0 a1 : Nat) (hm : m = a0 + a1 * 4294967296) :
    amt false (a0 * a0) (2 * s) + amt false (2 * a1 * a0) (2 * s + 32) + amt false (a1 * a1) (2 * s + 64) = uval v true := by
  have e : uval v true = ((a0 * a0 * 2 ^ (2 * s) + 2 * a1 * a0 * 2 ^ (2 * s + 32) + a1 * a1 * 2 ^ (2 * s + 64) : Nat) : Int) := by
    rw [square_nat s a0 a1, ← hm, h]
    rfl
  rw [e, Int.natCast_add, Int.natCast_add]
  rfl

set_option maxHeartbeats 400000 in
set_option maxRecDepth 100000 in
theorem addValue20 (b v : Nat) (sq : Bool) (g : Nat → Int) (M : Int) (w : World) (h : Limbs w b 140 g) (hM : Lm.Within g 140 M) (hM2 : M ≤ 1125000000000000) (hv : v < 18446744073709551616) (hf : Fl.Fin v) :
    Calls Try.prog 20 #[.slice (some ⟨b, 0, none⟩) 140 140, .int .i64 0, .float .f64 v, .bool sq] w (AddOk w b g (uval v sq) (M + 12884901888)) := by
  go_enter Try.func20, Try.ntmps20
  go_wp2_with fail
  refine (decompose26 v hv hf w).mono ?_
  rintro e w1 ⟨m, s, rfl, rfl, hm, hs, hms⟩
  have HMS : Hid (m * 2 ^ s = Fl.mag v) := hms
  clear hms
  have hM' : Lm.Within g 140 (M + 12884901888) := fun j hj => by have := hM j hj; omega
  by_cases hm0 : m = 0
  · have hm0' : ((m : Int) == 0) = true := by simp; omega
    have hz : Fl.mag v = 0 := by have := HMS.out; rw [hm0, Nat.zero_mul] at this; exact this.symm
    have HU : Hid (uval v sq = 0) := by
      show uval v sq = 0
      unfold uval
      rw [hz]
      cases sq <;> cases Fl.neg v <;> rfl
    clear hz hm0
    go_wp2
    go_end0
    exact ⟨rfl, g, h, Only.refl _ _, by rw [HU.out, Int.add_zero], hM'⟩
  · have hm0' : ((m : Int) == 0) = false := by simp; omega
    have hz : ¬ Fl.mag v = 0 := by
      rw [← HMS.out]
      exact Nat.mul_ne_zero hm0 (Nat.ne_of_gt (Nat.two_pow_pos s))
    have hsg := sign_of v hf hz
    clear hz hm0
    cases sq
    · go_wp2_with fail
      refine (addShifted27 b m s (Fl.neg v) g M w1 h hM (by omega) (by omega) (by omega)).mono ?_
      rintro e w2 ⟨rfl, g', hL, hO, ht, hW⟩
      rw [uval_plain v m s HMS.out] at ht
      have HT : Hid (Lm.tot g' 140 = Lm.tot g 140 + uval v false) := ht
      clear ht
      go_wp2
      go_end0
      exact ⟨rfl, g', hL, hO, HT.out, fun j hj => by have := hW j hj; omega⟩
    · obtain ⟨a0, ha0⟩ : ∃ a0 : Nat, a0 = m % 4294967296 := ⟨_, rfl⟩
      obtain ⟨a1, ha1⟩ : ∃ a1 : Nat, a1 = m / 4294967296 := ⟨_, rfl⟩
      have l0 : a0 < 4294967296 := by omega
      have l1 : a1 < 2097152 := by omega
      have q0 : bits BinOp.and IntKind.u64 (m : Int) 4294967295 = (a0 : Int) := by
        rw [ha0, show (4294967295 : Int) = ((4294967295 : Nat) : Int) from rfl, u64_and_nat _ _ (by omega) (by omega), show (4294967295 : Nat) = 2 ^ 32 - 1 from rfl, Nat.and_two_pow_sub_one_eq_mod]
      have q1 : (m : Int) / 4294967296 = (a1 : Int) := by omega
      have HA : Hid (m = a0 + a1 * 4294967296) := by show m = _; omega
      clear ha0 ha1
      obtain ⟨A, hA⟩ : ∃ A : Nat, A = a0 * a0 := ⟨_, rfl⟩
      obtain ⟨B, hB⟩ : ∃ B : Nat, B = 2 * a1 * a0 := ⟨_, rfl⟩
      obtain ⟨C, hC⟩ : ∃ C : Nat, C = a1 * a1 := ⟨_, rfl⟩
      have lA : A < 18446744073709551616 := by
        rw [hA]
        exact Nat.lt_of_lt_of_le (Nat.mul_lt_mul'' l0 l0) (by omega)
      have lB : B < 18446744073709551616 := by
        rw [hB]
        exact Nat.lt_of_lt_of_le (Nat.mul_lt_mul'' (show 2 * a1 < 4294967296 by omega) l0) (by omega)
      have lC : C < 18446744073709551616 := by
        rw [hC]
        exact Nat.lt_of_lt_of_le (Nat.mul_lt_mul'' l1 l1) (by omega)
      have k0 : IntKind.u64.wrap ((a0 : Int) * (a0 : Int)) = (A : Int) := by rw [IntKind.wrap_u64, ← Int.natCast_mul, ← hA]; omega
      have k1 : IntKind.u64.wrap (2 * (a1 : Int)) = 2 * (a1 : Int) := by rw [IntKind.wrap_u64]; omega
      have k2 : IntKind.u64.wrap (2 * (a1 : Int) * (a0 : Int)) = (B : Int) := by rw [IntKind.wrap_u64, show (2 * (a1 : Int)) = ((2 * a1 : Nat) : Int) from by omega, ← Int.natCast_mul, ← hB]; omega
      have k3 : IntKind.u64.wrap ((a1 : Int) * (a1 : Int)) = (C : Int) := by rw [IntKind.wrap_u64, ← Int.natCast_mul, ← hC]; omega
      have HU : Hid (amt false A (2 * s) + amt false B (2 * s + 32) + amt false C (2 * s + 64) = uval v true) := by
        rw [hA, hB, hC]
        exact uval_square v m s HMS.out a0 a1 HA.out
      clear hA hB hC
      go_wp2_with fail
      rw [show (2 * (s : Int)) = ((2 * s : Nat) : Int) from by omega]
      refine (addShifted27 b A (2 * s) false g M w1 h hM (by omega) lA (by omega)).mono ?_
      rintro e w2 ⟨rfl, g1, hL1, hO1, ht1, hW1⟩
      have HT1 : Hid (Lm.tot g1 140 = Lm.tot g 140 + amt false A (2 * s)) := ht1
      clear ht1
      go_wp2_with fail
      rw [show (2 * (s : Int) + 32) = ((2 * s + 32 : Nat) : Int) from by omega]
      refine (addShifted27 b B (2 * s + 32) false g1 (M + 4294967296) w2 hL1 hW1 (by omega) lB (by omega)).mono ?_
      rintro e w3 ⟨rfl, g2, hL2, hO2, ht2, hW2⟩
      have HT2 : Hid (Lm.tot g2 140 = Lm.tot g1 140 + amt false B (2 * s + 32)) := ht2
      clear ht2
      go_wp2_with fail
      rw [show (2 * (s : Int) + 64) = ((2 * s + 64 : Nat) : Int) from by omega]
      refine (addShifted27 b C (2 * s + 64) false g2 (M + 4294967296 + 4294967296) w3 hL2 hW2 (by omega) lC (by omega)).mono ?_
      rintro e w4 ⟨rfl, g3, hL3, hO3, ht3, hW3⟩
      have HT3 : Hid (Lm.tot g3 140 = Lm.tot g2 140 + amt false C (2 * s + 64)) := ht3
      clear ht3
      go_wp2
      go_end0
      refine ⟨rfl, g3, hL3, (hO1.trans hO2).trans hO3, ?_, fun j hj => by have := hW3 j hj; omega⟩
      rw [HT3.out, HT2.out, HT1.out, ← HU.out]
      omega

end Go.Proofs.Qxb6614701a
