import Derived.Test.Qxb6614701aWin
import Derived.Deep.CutRange
import Derived.Deep.RegionWith
namespace Go.Proofs.Qxb6614701a
open Go.RowKit

set_option maxRecDepth 100000 in
theorem at32 (W : Nat) (tv : Value) (av : Option Addr) (L cv st n pu : Nat) (vs : Value) (j : Nat) (w : World) (h : Win w W tv (.slice av L cv) st n pu vs) (hj : j < n) (hn : n ≤ L) (hL : L ≤ 4096) (hst : st < L) (hpu : n ≤ pu) (hpm : pu < 9223372036854775808) :
    Calls Try.prog 32 #[.pointer (some ⟨W, 0, none⟩), .int .i64 ((pu : Int) - (n : Int) + (j : Int))] w (IntIsN w (ring L st j)) := by
  have c5 := h.cN
  have c6 := h.cP
  have hW := h.lt
  have hI : ∀ q, Calls Try.prog 28 #[.pointer (some ⟨W, 0, none⟩), .int .i64 ((pu : Int) - (n : Int) + (j : Int) - ((pu : Int) - (n : Int)))] (w.drewN q) (IntIs (w.drewN q) (ring L st j)) := fun q => by
    rw [show (pu : Int) - (n : Int) + (j : Int) - ((pu : Int) - (n : Int)) = (j : Int) from by omega]
    exact index28 W tv av L cv st n pu vs j (w.drewN q) h (by omega) hL hst
  go_enter Try.func32, Try.ntmps32
  go_wp2
  go_quiet ((go_at_call 28; refine Calls.quiet_of_same (hI _)))
  go_wp2
  go_ret
  exact ⟨rfl, _, rfl⟩

/-- Of the blocks below B at most S has turned. -/
structure Same (S B : Nat) (w w' : World) : Prop where
  os : w'.os = w.os
  tape : w'.tape = w.tape
  output : w'.output = w.output
  size : w.heap.size ≤ w'.heap.size
  block : ∀ k, k < B → k ≠ S → w'.heap[k]? = w.heap[k]?

theorem Same.refl (S B : Nat) (w : World) : Same S B w w := ⟨rfl, rfl, rfl, Nat.le_refl _, fun _ _ _ => rfl⟩
theorem Same.trans {S B : Nat} {x y z : World} (h : Same S B x y) (k : Same S B y z) : Same S B x z :=
  ⟨k.os.trans h.os, k.tape.trans h.tape, k.output.trans h.output, Nat.le_trans h.size k.size, fun i h1 h2 => (k.block i h1 h2).trans (h.block i h1 h2)⟩
theorem Same.drewN {S B : Nat} {x w : World} (h : Same S B x w) (q : Nat) : Same S B x (w.drewN q) := ⟨h.os, h.tape, h.output, h.size, h.block⟩
theorem Same.drew {S B : Nat} {x w : World} (h : Same S B x w) : Same S B x w.drew := ⟨h.os, h.tape, h.output, h.size, h.block⟩

theorem same_of_keeps {w w' : World} {S B : Nat} {sq : Bool} {v : Value} {b pd n : Nat} {D : Nat → Int} (h : ES w S B sq v b pd n D) (k : Keeps S v w w') : Same S B w w' :=
  ⟨k.os, k.tape, k.output, k.size, fun i h1 h2 => k.block i (by have := h.bs; omega) h2 (by
    rcases h.dig with ⟨_, rfl⟩ | ⟨g, cap, cur, ⟨rfl, _⟩, h3, _⟩
    · simp [Value.ownBlock]
    · simp [Value.ownBlock]; omega)⟩

/-- The sum in block S holds k of the values X. -/
def Held (w wr : World) (S B : Nat) (sq : Bool) (X : Nat → Nat) (k : Nat) : Prop :=
  ∃ v b pd n D, ES wr S B sq v b pd n D ∧ Lm.dv b D n = usum X sq k ∧ b + n ≤ 140 ∧ pd ≤ k ∧ (∀ i, i < n → -((pd : Int) * 4294967296) ≤ D i ∧ D i ≤ (pd : Int) * 4294967296) ∧ Same S B w wr

def HeldE (w : World) (S B : Nat) (sq : Bool) (X : Nat → Nat) (k : Nat) (e : Ending) (w' : World) : Prop := e = .returned (.tuple #[]) ∧ Held w w' S B sq X k

/-- The closure that sums hands to each. -/
theorem clos24 (S B : Nat) (sq : Bool) (X : Nat → Nat) (k : Nat) (num : Int) (w0 w : World) (h : Held w0 w S B sq X k) (bx : Nat) (hbx : w.cell? ⟨bx, 0, none⟩ = some (.pointer (some ⟨S, 0, none⟩))) (hk : k ≤ 4096) (hx : X k < 18446744073709551616) (hf : Fl.Fin (X k)) :
    Calls Try.prog 24 #[.int .i64 num, .float .f64 (X k), .pointer (some ⟨bx, 0, none⟩)] w (HeldE w0 S B sq X (k + 1)) := by
  obtain ⟨v, b, pd, n, D, hE, hdv, hbn, hpd, hlim, hs⟩ := h
  have hp := put25 S B sq v b pd n D (X k) w hE hbn (by omega) hlim hx hf
  have hbs := World.block_lt_of_cell? _ _ hbx
  have HDV : Hid (Lm.dv b D n = usum X sq k) := hdv
  clear hdv
  go_enter Try.func24, Try.ntmps24
  go_wp2_with fail
  refine hp.mono ?_
  rintro e w2 ⟨rfl, v', b', pd', n', D', hE', hdv', hbn', hpd', hlim', hK, hF⟩
  go_wp2
  go_end0
  exact ⟨rfl, v', b', pd', n', D', hE', by rw [hdv', HDV.out]; rfl, hbn', by omega, hlim', hs.trans (same_of_keeps hE hK)⟩

end Go.Proofs.Qxb6614701a
