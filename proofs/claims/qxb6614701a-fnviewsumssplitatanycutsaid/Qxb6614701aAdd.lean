import Derived.Test.Qxb6614701aCov
namespace Go.Proofs.Qxb6614701a
open Go.RowKit

/-- hi*2^64 + lo shifted by less than a limb, in five limbs, as the text reckons them. -/
theorem pieces5 (hi lo r : Nat) (hh : hi < 4398046511104) (hl : lo < 18446744073709551616) (hr : r < 32) : ∃ W0 A Bq W1 W2 d0 d1 d2 d3 d4 : Nat,
    IntKind.u64.wrap ((lo : Int) * 2 ^ r) = (W0 : Int) ∧ IntKind.u64.wrap ((hi : Int) * 2 ^ r) = (A : Int) ∧ (lo : Int) / 2 ^ (64 - r) = (Bq : Int) ∧ bits BinOp.or IntKind.u64 (A : Int) (Bq : Int) = (W1 : Int) ∧ (hi : Int) / 2 ^ (64 - r) = (W2 : Int) ∧
    bits BinOp.and IntKind.u64 (W0 : Int) 4294967295 = (d0 : Int) ∧ (W0 : Int) / 4294967296 = (d1 : Int) ∧ bits BinOp.and IntKind.u64 (W1 : Int) 4294967295 = (d2 : Int) ∧ (W1 : Int) / 4294967296 = (d3 : Int) ∧ bits BinOp.and IntKind.u64 (W2 : Int) 4294967295 = (d4 : Int) ∧
    d0 < 4294967296 ∧ d1 < 4294967296 ∧ d2 < 4294967296 ∧ d3 < 4294967296 ∧ d4 < 4294967296 ∧ (hi = 0 → d3 = 0 ∧ d4 = 0) ∧
    d0 + d1 * 4294967296 + d2 * 18446744073709551616 + d3 * 79228162514264337593543950336 + d4 * 340282366920938463463374607431768211456 = (hi * 18446744073709551616 + lo) * 2 ^ r := by
  have hp : 2 ^ r * 2 ^ (64 - r) = 18446744073709551616 := by rw [← Nat.pow_add, show r + (64 - r) = 64 from by omega]
  have h31 : 2 ^ r ≤ 2147483648 := by
    have : 2 ^ r ≤ 2 ^ 31 := Nat.pow_le_pow_right (by omega) (by omega)
    omega
  have htop : ∀ x : Nat, x / 2 ^ (64 - r) = x * 2 ^ r / 18446744073709551616 := fun x => by
    rw [← hp, Nat.mul_comm (2 ^ r), Nat.mul_div_mul_right _ _ (Nat.two_pow_pos r)]
  have e1 : ∀ x : Nat, ((x : Int) * 2 ^ r) = ((x * 2 ^ r : Nat) : Int) := fun x => by simp
  have e2 : ∀ x : Nat, ((x : Int) / 2 ^ (64 - r)) = ((x / 2 ^ (64 - r) : Nat) : Int) := fun x => by simp
  have hV : lo * 2 ^ r < 18446744073709551616 * 2147483648 := Nat.lt_of_lt_of_le (Nat.mul_lt_mul_of_pos_right hl (Nat.two_pow_pos r)) (Nat.mul_le_mul_left _ h31)
  have hH : hi * 2 ^ r < 4398046511104 * 2147483648 := Nat.lt_of_lt_of_le (Nat.mul_lt_mul_of_pos_right hh (Nat.two_pow_pos r)) (Nat.mul_le_mul_left _ h31)
  have hmask : ∀ x : Nat, x < 18446744073709551616 → bits BinOp.and IntKind.u64 (x : Int) 4294967295 = ((x % 4294967296 : Nat) : Int) := fun x hx => by
    rw [show (4294967295 : Int) = ((4294967295 : Nat) : Int) from rfl, u64_and_nat _ _ hx (by omega), show (4294967295 : Nat) = 2 ^ 32 - 1 from rfl, Nat.and_two_pow_sub_one_eq_mod]
  have hB : lo * 2 ^ r / 18446744073709551616 < 2 ^ r := by
    rw [Nat.div_lt_iff_lt_mul (by omega), Nat.mul_comm]
    exact Nat.mul_lt_mul_of_pos_left hl (Nat.two_pow_pos r)
  have hA : hi * 2 ^ r % 18446744073709551616 % 2 ^ r = 0 := by
    rw [← hp, Nat.mod_mul_right_mod, Nat.mul_mod_left]
  have hor : bits BinOp.or IntKind.u64 ((hi * 2 ^ r % 18446744073709551616 : Nat) : Int) ((lo * 2 ^ r / 18446744073709551616 : Nat) : Int) = ((hi * 2 ^ r % 18446744073709551616 + lo * 2 ^ r / 18446744073709551616 : Nat) : Int) := by
    rw [u64_or_nat _ _ (Nat.mod_lt _ (by omega)) (by omega), nat_join r _ _ hA hB]
  have hW1 : hi * 2 ^ r % 18446744073709551616 + lo * 2 ^ r / 18446744073709551616 < 18446744073709551616 := by
    have h1 : hi * 2 ^ r % 18446744073709551616 = 2 ^ r * (hi * 2 ^ r % 18446744073709551616 / 2 ^ r) := by
      have := Nat.div_add_mod (hi * 2 ^ r % 18446744073709551616) (2 ^ r)
      omega
    have h2 : hi * 2 ^ r % 18446744073709551616 / 2 ^ r < 2 ^ (64 - r) := by
      rw [Nat.div_lt_iff_lt_mul (Nat.two_pow_pos r), Nat.mul_comm (2 ^ (64 - r)), hp]
      exact Nat.mod_lt _ (by omega)
    have h3 : 2 ^ r * (hi * 2 ^ r % 18446744073709551616 / 2 ^ r) + 2 ^ r ≤ 2 ^ r * 2 ^ (64 - r) := by
      rw [← Nat.mul_succ]
      exact Nat.mul_le_mul_left _ h2
    omega
  have hz : hi = 0 → hi * 2 ^ r = 0 := fun h => by rw [h, Nat.zero_mul]
  have hsum : (hi * 18446744073709551616 + lo) * 2 ^ r = hi * 2 ^ r * 18446744073709551616 + lo * 2 ^ r := by
    rw [Nat.add_mul, Nat.mul_right_comm]
  rw [hsum]
  refine ⟨lo * 2 ^ r % 18446744073709551616, hi * 2 ^ r % 18446744073709551616, lo * 2 ^ r / 18446744073709551616, hi * 2 ^ r % 18446744073709551616 + lo * 2 ^ r / 18446744073709551616, hi * 2 ^ r / 18446744073709551616,
    lo * 2 ^ r % 18446744073709551616 % 4294967296, lo * 2 ^ r % 18446744073709551616 / 4294967296, (hi * 2 ^ r % 18446744073709551616 + lo * 2 ^ r / 18446744073709551616) % 4294967296, (hi * 2 ^ r % 18446744073709551616 + lo * 2 ^ r / 18446744073709551616) / 4294967296, hi * 2 ^ r / 18446744073709551616,
    ?_, ?_, ?_, hor, ?_, hmask _ (Nat.mod_lt _ (by omega)), ?_, hmask _ hW1, ?_, ?_, ?_, ?_, ?_, ?_, ?_, ?_, ?_⟩
  · rw [e1, IntKind.wrap_u64]; omega
  · rw [e1, IntKind.wrap_u64]; omega
  · rw [e2, htop]
  · rw [e2, htop]
  · omega
  · omega
  · rw [hmask _ (by omega)]; omega
  · omega
  · omega
  · omega
  · omega
  · omega
  · intro h
    have := hz h
    have h5 : lo * 2 ^ r / 18446744073709551616 < 2147483648 := Nat.lt_of_lt_of_le hB h31
    omega
  · omega

/-- What add leaves. -/
def Added (w : World) (S B : Nat) (sq : Bool) (v : Value) (T : Int) (pd : Nat) (e : Ending) (w' : World) : Prop :=
  e = .returned (.tuple #[]) ∧ ∃ v' b' pd' n' D', ES w' S B sq v' b' pd' n' D' ∧ Lm.dv b' D' n' = T ∧ b' + n' ≤ 140 ∧ pd' ≤ pd + 1 ∧
    (∀ i, i < n' → -((pd' : Int) * 4294967296) ≤ D' i ∧ D' i ≤ (pd' : Int) * 4294967296) ∧ Keeps S v w w' ∧ Fresh w v v'

/-- The five limbs by their index. -/
def five (d0 d1 d2 d3 d4 : Nat) : Nat → Int := fun i => if i = 0 then d0 else if i = 1 then d1 else if i = 2 then d2 else if i = 3 then d3 else if i = 4 then d4 else 0

theorem five_dv (at_ d0 d1 d2 d3 d4 : Nat) : Lm.dv at_ (five d0 d1 d2 d3 d4) 5 = ((d0 + d1 * 4294967296 + d2 * 18446744073709551616 + d3 * 79228162514264337593543950336 + d4 * 340282366920938463463374607431768211456 : Nat) : Int) * ((2 ^ (32 * at_) : Nat) : Int) := by
  have p1 : ((2 ^ (32 * (at_ + 1)) : Nat) : Int) = 4294967296 * ((2 ^ (32 * at_) : Nat) : Int) := Lm.pow32 at_
  have p2 : ((2 ^ (32 * (at_ + 2)) : Nat) : Int) = 4294967296 * ((2 ^ (32 * (at_ + 1)) : Nat) : Int) := Lm.pow32 (at_ + 1)
  have p3 : ((2 ^ (32 * (at_ + 3)) : Nat) : Int) = 4294967296 * ((2 ^ (32 * (at_ + 2)) : Nat) : Int) := Lm.pow32 (at_ + 2)
  have p4 : ((2 ^ (32 * (at_ + 4)) : Nat) : Int) = 4294967296 * ((2 ^ (32 * (at_ + 3)) : Nat) : Int) := Lm.pow32 (at_ + 3)
  simp only [Lm.dv, Nat.add_zero, p4, p3, p2, p1, five]
  generalize ((2 ^ (32 * at_) : Nat) : Int) = P
  simp only [if_true, Nat.reduceEqDiff, if_false, Nat.succ_ne_self]
  rw [Int.natCast_add, Int.natCast_add, Int.natCast_add, Int.natCast_add, Int.natCast_mul, Int.natCast_mul, Int.natCast_mul, Int.natCast_mul, Int.add_mul, Int.add_mul, Int.add_mul, Int.add_mul, Int.mul_assoc, Int.mul_assoc, Int.mul_assoc, Int.mul_assoc]
  have r2 : ((18446744073709551616 : Nat) : Int) * P = 4294967296 * (4294967296 * P) := by omega
  have r3 : ((79228162514264337593543950336 : Nat) : Int) * P = 4294967296 * (4294967296 * (4294967296 * P)) := by omega
  have r4 : ((340282366920938463463374607431768211456 : Nat) : Int) * P = 4294967296 * (4294967296 * (4294967296 * (4294967296 * P))) := by omega
  have r1 : ((4294967296 : Nat) : Int) * P = 4294967296 * P := by omega
  rw [r1, r2, r3, r4]
  omega

/-- What the limbs stand for where they are laid. -/
theorem five_total (hi lo pos nd d0 d1 d2 d3 d4 : Nat) (hnd : (hi = 0 ∧ nd = 3) ∨ (hi ≠ 0 ∧ nd = 5)) (hz : hi = 0 → d3 = 0 ∧ d4 = 0)
    (hsum : d0 + d1 * 4294967296 + d2 * 18446744073709551616 + d3 * 79228162514264337593543950336 + d4 * 340282366920938463463374607431768211456 = (hi * 18446744073709551616 + lo) * 2 ^ (pos % 32)) :
    Lm.dv (pos / 32) (five d0 d1 d2 d3 d4) nd = (((hi * 18446744073709551616 + lo) * 2 ^ pos : Nat) : Int) := by
  have h5 := five_dv (pos / 32) d0 d1 d2 d3 d4
  rw [hsum, ← Int.natCast_mul, Lm.shift_cut] at h5
  rcases hnd with ⟨h0, rfl⟩ | ⟨_, rfl⟩
  · have := hz h0
    rw [← h5, ← Lm.dv_zeros (n := 3) 2 (fun i h1 h2 => by
      rcases (show i = 3 ∨ i = 4 by omega) with rfl | rfl
      · simp [five, this.1]
      · simp [five, this.2])]
  · exact h5

theorem five_lim (d0 d1 d2 d3 d4 : Nat) (l0 : d0 < 4294967296) (l1 : d1 < 4294967296) (l2 : d2 < 4294967296) (l3 : d3 < 4294967296) (l4 : d4 < 4294967296) (i : Nat) : 0 ≤ five d0 d1 d2 d3 d4 i ∧ five d0 d1 d2 d3 d4 i < 4294967296 := by
  unfold five
  repeat' split
  all_goals omega

/-- An array of five limbs in block a. -/
def Arr (w : World) (a d0 d1 d2 d3 d4 : Nat) : Prop := w.heap[a]? = some (.cells #[.int .i64 d0, .int .i64 d1, .int .i64 d2, .int .i64 d3, .int .i64 d4] 78 (0, 0))

theorem Arr.cell {w : World} {a d0 d1 d2 d3 d4 : Nat} (h : Arr w a d0 d1 d2 d3 d4) {i : Nat} (hi : i < 5) : w.cell? ⟨a, i, none⟩ = some (.int .i64 (five d0 d1 d2 d3 d4 i)) := by
  unfold Arr at h
  rcases (show i = 0 ∨ i = 1 ∨ i = 2 ∨ i = 3 ∨ i = 4 by omega) with rfl | rfl | rfl | rfl | rfl <;> simp [World.cell?, h, five]

/-- How add stands: w: as it began; wx: now; a: the limbs' block; T: what the sum stands for. -/
structure Adding (w wx : World) (S B : Nat) (sq : Bool) (v0 v : Value) (T : Int) (b pd n : Nat) (D : Nat → Int) (a d0 d1 d2 d3 d4 : Nat) : Prop where
  es : ES wx S B sq v b pd n D
  tot : Lm.dv b D n = T
  bn : b + n ≤ 140
  keeps : Keeps S v0 w wx
  fresh : Fresh w v0 v
  arr : Arr wx a d0 d1 d2 d3 d4
  apart : v.ownBlock ≠ some a
  an : w.heap.size ≤ a
  al : a < wx.heap.size
  sw : S < w.heap.size

theorem own_lt {w : World} {S B : Nat} {sq : Bool} {v : Value} {b pd n : Nat} {D : Nat → Int} (h : ES w S B sq v b pd n D) (k : Nat) (hk : v.ownBlock = some k) : k < w.heap.size := by
  rcases h.dig with ⟨_, rfl⟩ | ⟨g, cap, cur, ⟨rfl, _⟩, _, h3, _⟩
  · simp [Value.ownBlock] at hk
  · simp [Value.ownBlock] at hk
    subst hk
    exact lt_of_block h3

theorem adding_start {w : World} {S B : Nat} {sq : Bool} {v : Value} {b pd n : Nat} {D : Nat → Int} (h : ES w S B sq v b pd n D) (hbn : b + n ≤ 140) (d0 d1 d2 d3 d4 : Nat) :
    Adding w (w.alloc (.cells #[.int .i64 d0, .int .i64 d1, .int .i64 d2, .int .i64 d3, .int .i64 d4] 78)) S B sq v v (Lm.dv b D n) b pd n D w.heap.size d0 d1 d2 d3 d4 :=
  ⟨⟨by rw [Below.heap_alloc _ _ _ h.lt]; exact h.blk, h.dig.alloc _, h.sb, by have := h.bs; simp; omega⟩, rfl, hbn, (Keeps.refl _ _ _).alloc _, Fresh.refl _ _, heap_alloc_new _ _, fun e => by have := own_lt h _ e; omega, Nat.le_refl _, by simp, h.lt⟩

theorem Adding.drewN {w wx : World} {S B : Nat} {sq : Bool} {v0 v : Value} {T : Int} {b pd n : Nat} {D : Nat → Int} {a d0 d1 d2 d3 d4 : Nat} (h : Adding w wx S B sq v0 v T b pd n D a d0 d1 d2 d3 d4) (q : Nat) : Adding w (wx.drewN q) S B sq v0 v T b pd n D a d0 d1 d2 d3 d4 :=
  ⟨⟨h.es.blk, h.es.dig, h.es.sb, h.es.bs⟩, h.tot, h.bn, h.keeps.drewN q, h.fresh, h.arr, h.apart, h.an, h.al, h.sw⟩

/-- Behind cover. -/
theorem adding_cover {w wx w' : World} {S B : Nat} {sq : Bool} {v0 v : Value} {T : Int} {b pd n : Nat} {D : Nat → Int} {a d0 d1 d2 d3 d4 : Nat} (h : Adding w wx S B sq v0 v T b pd n D a d0 d1 d2 d3 d4)
    {v' : Value} {b' n' : Nat} {D' : Nat → Int} (hE : ES w' S B sq v' b' pd n' D') (hdv : Lm.dv b' D' n' = Lm.dv b D n) (hbn : b' + n' ≤ 140) (hK : Keeps S v wx w') (hF : Fresh wx v v') :
    Adding w w' S B sq v0 v' T b' pd n' D' a d0 d1 d2 d3 d4 :=
  ⟨hE, hdv.trans h.tot, hbn, h.keeps.trans h.fresh hK, fun k hk => by
      rcases hF k hk with h1 | h1
      · exact h.fresh k h1
      · exact Or.inr (Nat.le_trans h.keeps.size h1),
    (hK.block a h.al (by have := h.an; have := h.sw; omega) h.apart).trans h.arr, fun e => by
      rcases hF a e with h1 | h1
      · exact h.apart h1
      · have := h.al; omega, h.an, Nat.lt_of_lt_of_le h.al hK.size, h.sw⟩

theorem Adding.drew {w wx : World} {S B : Nat} {sq : Bool} {v0 v : Value} {T : Int} {b pd n : Nat} {D : Nat → Int} {a d0 d1 d2 d3 d4 : Nat} (h : Adding w wx S B sq v0 v T b pd n D a d0 d1 d2 d3 d4) : Adding w wx.drew S B sq v0 v T b pd n D a d0 d1 d2 d3 d4 :=
  ⟨⟨h.es.blk, h.es.dig, h.es.sb, h.es.bs⟩, h.tot, h.bn, h.keeps.drew, h.fresh, h.arr, h.apart, h.an, h.al, h.sw⟩

/-- A digit is laid. -/
theorem Adding.put {w wx : World} {S B : Nat} {sq : Bool} {v0 : Value} {T : Int} {b pd n : Nat} {D : Nat → Int} {a d0 d1 d2 d3 d4 g cap : Nat} (h : Adding w wx S B sq v0 (.slice (some ⟨g, 0, none⟩) n cap) T b pd n D a d0 d1 d2 d3 d4) {j : Nat} (hj : j < n) (x : Int) :
    Adding w (wx.setCell ⟨g, j, none⟩ (.int .i64 x)) S B sq v0 (.slice (some ⟨g, 0, none⟩) n cap) (T + (x - D j) * ((2 ^ (32 * (b + j)) : Nat) : Int)) b pd n (Lm.upd D j x) a d0 d1 d2 d3 d4 := by
  obtain ⟨g', cap', cur, ⟨e, hn⟩, hg, hb, hnc, hcm, hcs, hD⟩ : ∃ (g' cap' : Nat) (cur : Array Value), (Value.slice (some ⟨g, 0, none⟩) n cap = .slice (some ⟨g', 0, none⟩) n cap' ∧ 0 < n) ∧ B ≤ g' ∧ wx.heap[g']? = some (.cells cur 2 (0, 0)) ∧ n ≤ cap' ∧ cap' ≤ maxLen ∧ cur.size = cap' ∧ ∀ i, i < n → cur[i]? = some (.int .i64 (D i)) := by
    rcases h.es.dig with ⟨h1, _⟩ | h1
    · omega
    · exact h1
  obtain ⟨rfl, rfl⟩ : g = g' ∧ cap = cap' := by simpa using e
  have hgS : S ≠ g := by have := h.es.sb; omega
  have hgx : g ≠ a := fun e => h.apart (by simp [Value.ownBlock, e])
  have hnew : v0.ownBlock = some g ∨ w.heap.size ≤ g := h.fresh g rfl
  refine ⟨⟨?_, .inr ⟨g, cap, cur.setIfInBounds j (.int .i64 x), ⟨rfl, hn⟩, hg, ?_, hnc, hcm, by simpa using hcs, fun i hi => ?_⟩, h.es.sb, by simpa [World.setCell] using h.es.bs⟩, ?_, h.bn, ⟨h.keeps.os, h.keeps.tape, h.keeps.output, by simpa [World.setCell] using h.keeps.size, fun k h1 h2 h3 => ?_⟩, h.fresh, ?_, h.apart, h.an, by simpa [World.setCell] using h.al, h.sw⟩
  · rw [Below.heap_setCell _ _ _ _ (by show S ≠ g; exact hgS)]; exact h.es.blk
  · simp [World.setCell, Array.getElem?_modify, hb]
  · rw [Array.getElem?_setIfInBounds]
    by_cases e : j = i
    · subst e
      rw [if_pos rfl, if_pos (by omega), Lm.upd_same]
    · rw [if_neg e, Lm.upd_other _ _ _ _ (by omega)]
      exact hD i hi
  · rw [Lm.dv_upd _ _ _ _ _ hj, h.tot]
  · rw [Below.heap_setCell _ _ _ _ (by
      show k ≠ g
      rcases hnew with h4 | h4
      · intro e; subst e; exact h3 h4
      · omega)]
    exact h.keeps.block k h1 h2 h3
  · show _ = _
    rw [Below.heap_setCell _ _ _ _ (by show a ≠ g; exact fun e => hgx e.symm)]
    exact h.arr

def sg (mn : Bool) (x : Int) : Int := if mn then -x else x

/-- k limbs are in. -/
structure Going (w wx : World) (S B : Nat) (sq : Bool) (v0 v : Value) (T : Int) (b pd n a d0 d1 d2 d3 d4 at_ : Nat) (mn : Bool) (k : Nat) (D : Nat → Int) : Prop where
  ad : Adding w wx S B sq v0 v (T + sg mn (Lm.dv at_ (five d0 d1 d2 d3 d4) k)) b pd n D a d0 d1 d2 d3 d4
  lim : ∀ i, i < n → -(((pd : Int) + 1) * 4294967296) ≤ D i ∧ D i ≤ ((pd : Int) + 1) * 4294967296
  old : ∀ i, at_ - b + k ≤ i → i < n → -((pd : Int) * 4294967296) ≤ D i ∧ D i ≤ (pd : Int) * 4294967296

theorem going_start {w wx : World} {S B : Nat} {sq : Bool} {v0 v : Value} {T : Int} {b pd n a d0 d1 d2 d3 d4 at_ : Nat} {mn : Bool} {D : Nat → Int} (h : Adding w wx S B sq v0 v T b pd n D a d0 d1 d2 d3 d4)
    (hl : ∀ i, i < n → -((pd : Int) * 4294967296) ≤ D i ∧ D i ≤ (pd : Int) * 4294967296) : Going w wx S B sq v0 v T b pd n a d0 d1 d2 d3 d4 at_ mn 0 D :=
  ⟨by have e : T + sg mn (Lm.dv at_ (five d0 d1 d2 d3 d4) 0) = T := by cases mn <;> simp [sg, Lm.dv]
      rw [e]; exact h, fun i hi => by have := hl i hi; omega, fun i _ hi => hl i hi⟩

theorem going_step {w wx : World} {S B : Nat} {sq : Bool} {v0 : Value} {T : Int} {b pd n a d0 d1 d2 d3 d4 at_ g cap : Nat} {mn : Bool} {k : Nat} {D : Nat → Int} (h : Going w wx S B sq v0 (.slice (some ⟨g, 0, none⟩) n cap) T b pd n a d0 d1 d2 d3 d4 at_ mn k D)
    (hb : b ≤ at_) (hk : at_ - b + k < n) (l : 0 ≤ five d0 d1 d2 d3 d4 k ∧ five d0 d1 d2 d3 d4 k < 4294967296) (x : Int) (hx : x = D (at_ - b + k) + sg mn (five d0 d1 d2 d3 d4 k)) :
    Going w (wx.setCell ⟨g, at_ - b + k, none⟩ (.int .i64 x)).drew S B sq v0 (.slice (some ⟨g, 0, none⟩) n cap) T b pd n a d0 d1 d2 d3 d4 at_ mn (k + 1) (Lm.upd D (at_ - b + k) x) := by
  have hp := (h.ad.put hk x).drew
  have e : T + sg mn (Lm.dv at_ (five d0 d1 d2 d3 d4) k) + (x - D (at_ - b + k)) * ((2 ^ (32 * (b + (at_ - b + k))) : Nat) : Int) = T + sg mn (Lm.dv at_ (five d0 d1 d2 d3 d4) (k + 1)) := by
    rw [hx, show b + (at_ - b + k) = at_ + k from by omega, Lm.dv]
    generalize ((2 ^ (32 * (at_ + k)) : Nat) : Int) = P
    have e2 : D (at_ - b + k) + sg mn (five d0 d1 d2 d3 d4 k) - D (at_ - b + k) = sg mn (five d0 d1 d2 d3 d4 k) := by omega
    rw [e2]
    cases mn
    · simp only [sg, Bool.false_eq_true, if_false]
      omega
    · simp only [sg, if_true]
      rw [Int.neg_mul]
      omega
  rw [e] at hp
  have ho := h.old (at_ - b + k) (Nat.le_refl _) hk
  refine ⟨hp, fun i hi => ?_, fun i h1 h2 => ?_⟩
  · by_cases e1 : i = at_ - b + k
    · subst e1
      rw [Lm.upd_same, hx]
      cases mn
      · simp only [sg, Bool.false_eq_true, if_false]; omega
      · simp only [sg, if_true]; omega
    · rw [Lm.upd_other _ _ _ _ e1]
      exact h.lim i hi
  · rw [Lm.upd_other _ _ _ _ (by omega)]
    exact h.old i (by omega) h2

theorem ES.pending {w : World} {S B : Nat} {sq : Bool} {v : Value} {b pd n : Nat} {D : Nat → Int} (h : ES w S B sq v b pd n D) (x : Nat) : ES (w.setCell ⟨S, 3, none⟩ (.int .i64 x)) S B sq v b x n D :=
  ⟨blk_set _ _ _ _ _ 3 h.blk, h.dig.set_other (by show S < B; exact h.sb) _, h.sb, by simpa [World.setCell] using h.bs⟩

theorem digv {w : World} {B : Nat} {v : Value} {n : Nat} {D : Nat → Int} (h : Dig w B v n D) : ∃ ad cap, v = .slice ad n cap := by
  rcases h with ⟨rfl, rfl⟩ | ⟨g, cap, _, h1, _⟩
  · exact ⟨none, 0, rfl⟩
  · exact ⟨_, cap, h1.1⟩

theorem Adding.digit {w wx : World} {S B : Nat} {sq : Bool} {v0 : Value} {T : Int} {b pd n : Nat} {D : Nat → Int} {a d0 d1 d2 d3 d4 g cap : Nat} (h : Adding w wx S B sq v0 (.slice (some ⟨g, 0, none⟩) n cap) T b pd n D a d0 d1 d2 d3 d4) {j : Nat} (hj : j < n) :
    wx.cell? ⟨g, j, none⟩ = some (.int .i64 (D j)) ∧ wx.frozen? ⟨g, j, none⟩ = false := by
  rcases h.es.dig with ⟨h1, _⟩ | ⟨g', cap', cur, ⟨e, hn⟩, hg, hb, hnc, hcm, hcs, hD⟩
  · omega
  · obtain ⟨rfl, rfl⟩ : g = g' ∧ cap = cap' := by simpa using e
    simp [World.cell?, World.frozen?, hb, hD j hj]

theorem cap_le {w : World} {B g cap : Nat} {n : Nat} {D : Nat → Int} (h : Dig w B (.slice (some ⟨g, 0, none⟩) n cap) n D) : n ≤ cap ∧ cap ≤ maxLen := by
  rcases h with ⟨_, h1⟩ | ⟨g', cap', cur, ⟨e, hn⟩, hg, hb, hnc, hcm, hcs, hD⟩
  · cases h1
  · obtain ⟨rfl, rfl⟩ : g = g' ∧ cap = cap' := by simpa using e
    exact ⟨hnc, hcm⟩

/-- What stands when cover is done with. -/
def Ready (w wx : World) (S B : Nat) (sq : Bool) (v0 : Value) (T : Int) (pd a d0 d1 d2 d3 d4 at_ nd : Nat) : Prop :=
  ∃ v b n D, Adding w wx S B sq v0 v T b pd n D a d0 d1 d2 d3 d4 ∧ b ≤ at_ ∧ at_ + nd < b + n ∧ ∀ i, i < n → -((pd : Int) * 4294967296) ≤ D i ∧ D i ≤ (pd : Int) * 4294967296

set_option maxHeartbeats 1000000 in
set_option maxRecDepth 100000 in
theorem add35 (S B : Nat) (sq : Bool) (v : Value) (b pd n : Nat) (D : Nat → Int) (hi lo pos : Nat) (mn : Bool) (w : World) (h : ES w S B sq v b pd n D) (hbn : b + n ≤ 140) (hpd : pd ≤ 5000)
    (hlim : ∀ i, i < n → -((pd : Int) * 4294967296) ≤ D i ∧ D i ≤ (pd : Int) * 4294967296) (hh : hi < 4398046511104) (hl : lo < 18446744073709551616) (hpos : pos ≤ 4090) :
    Calls Try.prog 35 #[.pointer (some ⟨S, 0, none⟩), .int .u64 hi, .int .u64 lo, .int .i64 pos, .bool mn] w
      (Added w S B sq v (Lm.dv b D n + amt mn (hi * 18446744073709551616 + lo) pos) pd) := by
  by_cases h0 : hi = 0 ∧ lo = 0
  · have e1 : ((hi : Int) == 0) = true := by simp; omega
    have e2 : ((lo : Int) == 0) = true := by simp; omega
    have HT : Hid (Lm.dv b D n + amt mn (hi * 18446744073709551616 + lo) pos = Lm.dv b D n) := by
      show _ = _
      rw [h0.1, h0.2]
      cases mn <;> simp [amt]
    clear h0
    go_enter Try.func35, Try.ntmps35
    go_wp2
    go_end0
    exact ⟨rfl, v, b, pd, n, D, h, HT.out.symm, hbn, by omega, hlim, Keeps.refl _ _ _, Fresh.refl _ _⟩
  · obtain ⟨W0, A, Bq, W1, W2, d0, d1, d2, d3, d4, q1, q2, q3, q4, q5, q6, q7, q8, q9, q10, l0, l1, l2, l3, l4, hz, hsum⟩ := pieces5 hi lo (pos % 32) hh hl (by omega)
    obtain ⟨nd, hnd⟩ : ∃ nd : Nat, (hi = 0 ∧ nd = 3) ∨ (hi ≠ 0 ∧ nd = 5) := by
      by_cases h1 : hi = 0
      · exact ⟨3, Or.inl ⟨h1, rfl⟩⟩
      · exact ⟨5, Or.inr ⟨h1, rfl⟩⟩
    have hnd3 : 3 ≤ nd := by omega
    have hnd5 : nd ≤ 5 := by omega
    have hS := h.lt
    have HZ : Hid (hi = 0 → d3 = 0 ∧ d4 = 0) := hz
    have HSUM : Hid (d0 + d1 * 4294967296 + d2 * 18446744073709551616 + d3 * 79228162514264337593543950336 + d4 * 340282366920938463463374607431768211456 = (hi * 18446744073709551616 + lo) * 2 ^ (pos % 32)) := hsum
    have HND : Hid ((hi = 0 ∧ nd = 3) ∨ (hi ≠ 0 ∧ nd = 5)) := hnd
    have H0 : Hid (¬ (hi = 0 ∧ lo = 0)) := h0
    clear hz hsum hnd h0
    go_enter Try.func35, Try.ntmps35
    go_upto_region 0 with (fail)
    go_cut [24] from 19 (fun s wx => s = .bool false ∧ w = wx)
    case first =>
      by_cases hhi : hi = 0
      · have e1 : ((hi : Int) == 0) = true := by simp; omega
        have e2 : ((lo : Int) == 0) = false := by have := H0.out; simp; omega
        clear hhi
        go_wp2
        go_meet
        case rel => exact ⟨rfl, rfl⟩
      · have e1 : ((hi : Int) == 0) = false := by simp; omega
        go_wp2
        go_meet
        case rel => exact ⟨rfl, rfl⟩
    case rest =>
      obtain ⟨rfl, rfl⟩ := hcut
      go_upto_if 60 with (fail)
      have hA := adding_start h hbn d0 d1 d2 d3 d4
      go_cut [15] from 19 (fun s wx => s = .int .i64 nd ∧ Adding w wx S B sq v v (Lm.dv b D n) b pd n D w.heap.size d0 d1 d2 d3 d4)
      case first =>
        rcases HND.out with ⟨e1, e2⟩ | ⟨e1, e2⟩
        · have f1 : ((hi : Int) == 0) = true := by simp; omega
          clear e1
          go_wp2
          go_meet
          case rel =>
            subst e2
            exact ⟨rfl, hA⟩
        · have f1 : ((hi : Int) == 0) = false := by simp; omega
          go_wp2
          go_meet
          case rel =>
            subst e2
            exact ⟨rfl, hA⟩
      case rest =>
        obtain ⟨rfl, hA⟩ := hcut
        clear q1 q2 q3 q4 q5 q6 q7 q8 q9 q10
        obtain ⟨ad, cap, hv⟩ := digv h.dig
        subst hv
        obtain ⟨at_, HAT⟩ : ∃ at_, Hid (at_ = pos / 32) := ⟨_, rfl⟩
        have hat : at_ ≤ 127 := by have := HAT.out; omega
        have q16 : (pos : Int) / 32 = (at_ : Int) := by have := HAT.out; omega
        obtain ⟨bb, HBB⟩ : ∃ bb : Bool, Hid (bb = true ↔ (at_ < b ∨ b + n ≤ at_ + nd)) := ⟨decide (at_ < b ∨ b + n ≤ at_ + nd), by show _ ↔ _; simp⟩
        have c1 := hA.es.c1
        have c2 := hA.es.c2
        have hSx := hA.es.lt
        go_upto_region 8 with (fail)
        go_cut [84] from 19 (fun t wx => t = .bool bb ∧ Adding w wx S B sq (.slice ad n cap) (.slice ad n cap) (Lm.dv b D n) b pd n D w.heap.size d0 d1 d2 d3 d4)
        case first =>
          by_cases t1 : at_ < b
          · obtain rfl : bb = true := HBB.out.2 (Or.inl t1)
            have g1 : decide ((at_ : Int) < (b : Int)) = true := by simp; omega
            go_quiet (fail)
            go_wp2
            go_meet
            case rel => exact ⟨rfl, hA.drewN _⟩
          · have g1 : decide ((at_ : Int) < (b : Int)) = false := by simp; omega
            by_cases t2 : b + n ≤ at_ + nd
            · obtain rfl : bb = true := HBB.out.2 (Or.inr t2)
              have g2 : decide ((b : Int) + (n : Int) ≤ (at_ : Int) + (nd : Int)) = true := by simp; omega
              go_quiet (fail)
              go_wp2
              go_meet
              case rel => exact ⟨rfl, hA.drewN _⟩
            · obtain rfl : bb = false := by
                cases bb
                · rfl
                · have := HBB.out.1 rfl; omega
              have g2 : decide ((b : Int) + (n : Int) ≤ (at_ : Int) + (nd : Int)) = false := by simp; omega
              go_quiet (fail)
              go_wp2
              go_meet
              case rel => exact ⟨rfl, hA.drewN _⟩
        case rest =>
          clear c1 c2 hSx hA
          obtain ⟨rfl, hA⟩ := hcut
          go_upto_if 84 with (fail)
          go_cut [] from 19 (fun wx => Ready w wx S B sq (.slice ad n cap) (Lm.dv b D n) pd w.heap.size d0 d1 d2 d3 d4 at_ nd)
          case first =>
            cases bb
            · have hb : ¬ (at_ < b ∨ b + n ≤ at_ + nd) := fun e => by have := HBB.out.2 e; cases this
              go_wp2
              go_meet
              case rel => exact ⟨_, b, n, D, hA, by omega, by omega, hlim⟩
            · have hcov : Calls Try.prog 37 #[.pointer (some ⟨S, 0, none⟩), .int .i64 at_, .int .i64 ((at_ + nd : Nat) : Int)] wc (CoverOk wc S B sq (.slice ad n cap) b pd n D at_ (at_ + nd)) := by
                by_cases hn : n = 0
                · subst hn
                  exact cover_first S B sq _ b pd D at_ (at_ + nd) wc hA.es (by omega) (by omega)
                · exact cover37 S B sq _ b pd n D at_ (at_ + nd) wc hA.es (by omega) hbn (by omega) (by omega)
              rw [show ((at_ + nd : Nat) : Int) = (at_ : Int) + (nd : Int) from by omega] at hcov
              go_wp2_with fail
              refine hcov.mono ?_
              rintro e w2 ⟨rfl, v', b', n', D', hE, hdv, hb1, hb2, hb3, hM, hK, hF⟩
              have hA2 := adding_cover hA hE hdv hb3 hK hF
              have hM2 := hM ((pd : Int) * 4294967296) (by omega) hlim
              clear hM hE hK hF hdv hA hcov
              go_wp2
              go_meet
              case rel => exact ⟨v', b', n', D', hA2, hb1, hb2, hM2⟩
          case rest =>
            clear hA
            obtain ⟨v', b', n', D', hA, hb1, hb2, hM⟩ := hcut
            obtain ⟨g, cap', hv'⟩ := dig_shape hA.es.dig (by omega)
            subst hv'
            have hbn' := hA.bn
            have hcap := cap_le hA.es.dig
            have c1 := hA.es.c1
            have c2 := hA.es.c2
            have hSx := hA.es.lt
            go_wp2
            go_quiet (fail)
            have hG0 : Going w (wc.drewN nq) S B sq (.slice ad n cap) (.slice (some ⟨g, 0, none⟩) n' cap') (Lm.dv b D n) b' pd n' w.heap.size d0 d1 d2 d3 d4 at_ mn 0 D' := going_start (hA.drewN nq) hM
            clear c1 c2 hSx hA
            go_wp2
            rw [show at_ - b' + nd - (at_ - b') = nd from by omega]
            go_loopw [112] (fun si wr => ∃ (k : Nat) (G : Nat → Int), k ≤ nd ∧ si = .int .i64 k ∧ Going w wr S B sq (.slice ad n cap) (.slice (some ⟨g, 0, none⟩) n' cap') (Lm.dv b D n) b' pd n' w.heap.size d0 d1 d2 d3 d4 at_ mn k G) (fun si _ => nd - (intOf si).toNat)
            case atStart => exact ⟨0, _, Nat.zero_le _, rfl, hG0⟩
            case round =>
              obtain ⟨k, G, hk, rfl, hG⟩ := hrel
              clear hG0
              by_cases hlt : k < nd
              · have hkn : at_ - b' + k < n' := by omega
                have hdg := hG.ad.digit hkn
                have c1 := hdg.1
                have f1 := hdg.2
                have c2 := hG.ad.arr.cell (i := k) (by omega)
                have hl5 := five_lim d0 d1 d2 d3 d4 l0 l1 l2 l3 l4 k
                have ho := hG.old (at_ - b' + k) (Nat.le_refl _) hkn
                have hSt := fun x hx => going_step hG hb1 hkn hl5 x hx
                have hx1 : -70368744177664 ≤ G (at_ - b' + k) := by omega
                have hx2 : G (at_ - b' + k) ≤ 70368744177664 := by omega
                have hy1 := hl5.1
                have hy2 := hl5.2
                have hk5 : k < 5 := by omega
                have hgs := World.block_lt_of_cell? _ _ c1
                have has := World.block_lt_of_cell? _ _ c2
                clear hdg hl5 ho
                cases mn
                · have hS1 := hSt _ rfl
                  simp only [sg, Bool.false_eq_true, if_false] at hS1
                  clear hSt
                  go_wp2
                  go_region
                  all_goals go_wp2
                  all_goals go_roundw
                  case rel => exact ⟨k + 1, _, by omega, by go_num, hS1⟩
                  case measure => simp [intOf]; omega
                · have hS1 := hSt _ rfl
                  simp only [sg, if_true] at hS1
                  rw [← Int.sub_eq_add_neg] at hS1
                  clear hSt
                  go_wp2
                  go_region
                  all_goals go_wp2
                  all_goals go_roundw
                  case rel => exact ⟨k + 1, _, by omega, by go_num, hS1⟩
                  case measure => simp [intOf]; omega
              · obtain rfl : k = nd := by omega
                have c3 := hG.ad.es.c3
                have f3 := hG.ad.es.fr 3
                have hSx := hG.ad.es.lt
                have ep : ((pd : Int) + 1 == 536870912) = false := by simp; omega
                go_wp2
                go_end0
                refine ⟨rfl, _, b', pd + 1, n', G, (hG.ad.es.pending (pd + 1)), ?_, hbn', Nat.le_refl _, ?_, hG.ad.keeps.set 3 _, hG.ad.fresh⟩
                · rw [hG.ad.tot, HAT.out, five_total hi lo pos _ d0 d1 d2 d3 d4 HND.out HZ.out HSUM.out]
                  cases mn <;> rfl
                · intro i hi
                  have := hG.lim i hi
                  omega

end Go.Proofs.Qxb6614701a
