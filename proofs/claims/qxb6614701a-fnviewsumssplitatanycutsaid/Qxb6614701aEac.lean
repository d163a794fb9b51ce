import Derived.Test.Qxb6614701aEch
namespace Go.Proofs.Qxb6614701a
open Go.RowKit

theorem Held.of_heap {w wr w1 : World} {S B : Nat} {sq : Bool} {X : Nat → Nat} {k : Nat} (h : Held w wr S B sq X k) (e1 : w1.heap = wr.heap) (e2 : w1.os = wr.os) (e3 : w1.tape = wr.tape) (e4 : w1.output = wr.output) : Held w w1 S B sq X k := by
  obtain ⟨v, b, pd, n, D, hE, hdv, hbn, hpd, hlim, hs⟩ := h
  refine ⟨v, b, pd, n, D, ⟨by rw [e1]; exact hE.blk, ?_, hE.sb, by rw [e1]; exact hE.bs⟩, hdv, hbn, hpd, hlim, ⟨e2.trans hs.os, e3.trans hs.tape, e4.trans hs.output, by rw [e1]; exact hs.size, fun i h1 h2 => by rw [e1]; exact hs.block i h1 h2⟩⟩
  have := hE.dig
  unfold Dig at this ⊢
  rw [e1]
  exact this

theorem Held.same {w wr : World} {S B : Nat} {sq : Bool} {X : Nat → Nat} {k : Nat} (h : Held w wr S B sq X k) : Same S B w wr := by
  obtain ⟨v, b, pd, n, D, hE, hdv, hbn, hpd, hlim, hs⟩ := h
  exact hs

theorem Held.bs {w wr : World} {S B : Nat} {sq : Bool} {X : Nat → Nat} {k : Nat} (h : Held w wr S B sq X k) : S < B ∧ B ≤ wr.heap.size := by
  obtain ⟨v, b, pd, n, D, hE, hdv, hbn, hpd, hlim, hs⟩ := h
  exact ⟨hE.sb, hE.bs⟩

theorem Same.cell {S B : Nat} {w w' : World} (h : Same S B w w') {a : Addr} (h1 : a.block < B) (h2 : a.block ≠ S) : w'.cell? a = w.cell? a := by
  unfold World.cell?
  rw [h.block _ h1 h2]

/-- The window's values. -/
structure Vals (w : World) (av : Option Addr) (L vb vo : Nat) (V : Nat → Nat) : Prop where
  ad : 0 < L → av = some ⟨vb, vo, none⟩
  cell : ∀ i, i < L → w.cell? ⟨vb, vo + i, none⟩ = some (.float .f64 (V i))

theorem ring_lt {L st j : Nat} (h1 : st < L) (h2 : j < L) : ring L st j < L := by
  unfold ring
  split <;> omega

set_option maxHeartbeats 1000000 in
set_option maxRecDepth 100000 in
theorem each23 (Vw W : Nat) (tv : Value) (av : Option Addr) (L cv st n pu : Nat) (vs : Value) (w : World) (hW : Win w W tv (.slice av L cv) st n pu vs) (hn : n ≤ L) (hL : L ≤ 4096) (hst : 0 < L → st < L) (hpu : n ≤ pu) (hpm : pu < 9223372036854775808)
    (vb vo : Nat) (V : Nat → Nat) (hV : Vals w av L vb vo V) (k0 fi : Nat) (hk0 : k0 ≤ n) (hfi : fi + k0 = pu) (cF : w.cell? ⟨Vw, 2, none⟩ = some (.int .i64 fi))
    (S B : Nat) (sq : Bool) (X : Nat → Nat) (hX : ∀ i, i < k0 → X i = V (ring L st (n - k0 + i)) ∧ X i < 18446744073709551616 ∧ Fl.Fin (X i)) (h : Held w w S B sq X 0)
    (bx : Nat) (hbx : w.cell? ⟨bx, 0, none⟩ = some (.pointer (some ⟨S, 0, none⟩))) (b1 : W < B ∧ W ≠ S) (b3 : 0 < L → vb < B ∧ vb ≠ S) (b4 : bx < B ∧ bx ≠ S) :
    Calls Try.prog 23 #[.pointer (some ⟨Vw, 0, none⟩), .pointer (some ⟨W, 0, none⟩), .func (.func 24) #[] #[.pointer (some ⟨bx, 0, none⟩)]] w (HeldE w S B sq X k0) := by
  have hVs := World.block_lt_of_cell? _ _ cF
  have HF : Hid (fi + k0 = pu) := hfi
  have HX : Hid (∀ i, i < k0 → X i = V (ring L st (n - k0 + i)) ∧ X i < 18446744073709551616 ∧ Fl.Fin (X i)) := hX
  clear hfi hX
  go_enter Try.func23, Try.ntmps23
  go_wp2
  go_loopw [6] (fun si wr => ∃ k : Nat, k ≤ k0 ∧ si = .int .i64 ((fi + k : Nat) : Int) ∧ Held w wr S B sq X k) (fun si _ => pu - (intOf si).toNat)
  case atStart => exact ⟨0, Nat.zero_le _, by simp, h⟩
  case round =>
    obtain ⟨k, hk, rfl, hH⟩ := hrel
    have hs := hH.same
    have hW1 : Win wr W tv (.slice av L cv) st n pu vs := hW.of_block (hs.block W b1.1 b1.2)
    have c3 := hW1.cV
    have c6 := hW1.cP
    have hWs := hW1.lt
    by_cases hlt : k < k0
    · have hL0 : 0 < L := by omega
      obtain rfl := hV.ad hL0
      have hX1 := HX.out k hlt
      obtain ⟨r, hr⟩ : ∃ r, r = ring L st (n - k0 + k) := ⟨_, rfl⟩
      have hrl : r < L := hr ▸ ring_lt (hst hL0) (by omega)
      have cX : wr.cell? ⟨vb, vo + r, none⟩ = some (.float .f64 (X k)) := by
        rw [hs.cell (a := ⟨vb, vo + r, none⟩) (b3 hL0).1 (b3 hL0).2, hV.cell r hrl, hr, hX1.1]
      have hlt2 : fi + k < pu := by have := HF.out; omega
      have hA : ∀ w1 : World, w1.heap = wr.heap → Calls Try.prog 32 #[.pointer (some ⟨W, 0, none⟩), .int .i64 ((fi : Int) + (k : Int))] w1 (IntIsN w1 r) := fun w1 e => by
        rw [show (fi : Int) + (k : Int) = (pu : Int) - (n : Int) + ((n - k0 + k : Nat) : Int) from by have := HF.out; omega, hr]
        exact at32 W tv _ L cv st n pu vs (n - k0 + k) w1 (hW1.of_block (by rw [e])) (by omega) hn hL (hst hL0) hpu hpm
      have hC : ∀ (w1 : World) (num : Int), w1.heap = wr.heap → w1.os = wr.os → w1.tape = wr.tape → w1.output = wr.output → Calls Try.prog 24 #[.int .i64 num, .float .f64 (X k), .pointer (some ⟨bx, 0, none⟩)] w1 (HeldE w S B sq X (k + 1)) := fun w1 num e1 e2 e3 e4 =>
        clos24 S B sq X k num w w1 (hH.of_heap e1 e2 e3 e4) bx (by
          have : w1.cell? ⟨bx, 0, none⟩ = wr.cell? ⟨bx, 0, none⟩ := by unfold World.cell?; rw [e1]
          rw [this, hs.cell (a := ⟨bx, 0, none⟩) b4.1 b4.2, hbx]) (by omega) hX1.2.1 hX1.2.2
      clear hr hX1
      go_wp2
      go_region_with (first
        | (go_at_call 32; refine (hA _ ?_).mono ?_; exact rfl; rintro e w1 ⟨rfl, q, rfl⟩)
        | (go_at_call 24; refine (hC _ _ ?_ ?_ ?_ ?_).mono ?_; exact rfl; exact rfl; exact rfl; exact rfl; rintro e w2 ⟨rfl, hH2⟩))
      all_goals
        go_wp2
        go_roundw
        case rel => exact ⟨k + 1, by omega, by go_num, hH2⟩
        case measure => simp only [intOf]; omega
    · obtain rfl : k = k0 := by omega
      have hlt2 : ¬ fi + k < pu := by have := HF.out; omega
      go_wp2
      go_end0
      exact ⟨rfl, hH⟩

end Go.Proofs.Qxb6614701a
