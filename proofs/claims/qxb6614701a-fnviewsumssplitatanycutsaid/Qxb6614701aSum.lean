import Derived.Test.Qxb6614701aMat
import Derived.Deep.QuietTactic
import Derived.BigQuiet
import Derived.BigRegion
import Derived.Deep.Cut
namespace Go.Proofs.Qxb6614701a
namespace Lm
/-- What n digits at base b stand for. -/
def dv (b : Nat) (D : Nat → Int) : Nat → Int
  | 0 => 0
  | n + 1 => dv b D n + D n * ((2 ^ (32 * (b + n)) : Nat) : Int)
end Lm
open Go.RowKit

theorem Try.info2 : (Try.prog.info? 2).map (fun i => (i.zero, i.size, i.bytes)) = some (some (.int .i64 0), 1, 8) := by kernel_rfl

/-- A slice of digits as the walk is told of it. -/
structure Dg (w : World) (a : Option Addr) (n b : Nat) (D : Nat → Int) : Prop where
  ad : 0 < n → a = some ⟨b, 0, none⟩
  cell : ∀ i, i < n → w.cell? ⟨b, i, none⟩ = some (.int .i64 (D i))
  lim : ∀ i, i < n → -70368744177664 ≤ D i ∧ D i ≤ 70368744177664

/-- A slice of floats. -/
structure Fs (w : World) (a : Option Addr) (n b o : Nat) (X : Nat → Nat) : Prop where
  ad : 0 < n → a = some ⟨b, o, none⟩
  cell : ∀ i, i < n → w.cell? ⟨b, o + i, none⟩ = some (.float .f64 (X i))
  lt : ∀ i, i < n → X i < 18446744073709551616
  fin : ∀ i, i < n → Fl.Fin (X i)

/-- The sum of n values in units. -/
def usum (X : Nat → Nat) (sq : Bool) : Nat → Int
  | 0 => 0
  | n + 1 => usum X sq n + uval (X n) sq

def Matches (w : World) (e : Ending) (w' : World) : Prop := e = .returned (.bool true) ∧ Below w.heap.size w w'

/-- got, k digits of the first laid in. -/
structure Got1 (w wr : World) (g b n : Nat) (D : Nat → Int) (k : Nat) (G : Nat → Int) : Prop where
  below : Below w.heap.size w wr
  size : wr.heap.size = g + 1
  row : Limbs wr g 140 G
  tot : Lm.tot G 140 = Lm.dv b D k
  free : ∀ j, b + k ≤ j → j < 140 → G j = 0
  lim : Lm.Within G 140 70368744177664

theorem got1_start (w : World) (b n : Nat) (D : Nat → Int) : Got1 w (w.alloc (.cells (madeCells #[.int .i64 0] 140) 2)) w.heap.size b n D 0 (fun _ => 0) :=
  ⟨(Below.refl _ _).alloc (Nat.le_refl _) _, by simp, World.rowIs_made w _ 140 2, Lm.tot_zero 140, fun _ _ _ => rfl, fun _ _ => by omega⟩

theorem got1_step {w wr : World} {g b n : Nat} {D : Nat → Int} {k : Nat} {G : Nat → Int} (h : Got1 w wr g b n D k G) (hg : w.heap.size ≤ g) (hk : k < n) (hb : b + n ≤ 140) (hl : -70368744177664 ≤ D k ∧ D k ≤ 70368744177664) :
    Got1 w (wr.setCell ⟨g, b + k, none⟩ (.int .i64 (D k))).drew g b n D (k + 1) (Lm.upd G (b + k) (D k)) := by
  refine ⟨(h.below.setCell (by show w.heap.size ≤ g; exact hg) _).drew, by simp [h.size], (h.row.set _ _).drew, ?_, fun j h1 h2 => ?_, Lm.within_upd h.lim (Int.le_refl _) _ _ (by omega) (by omega)⟩
  · rw [Lm.tot_upd _ _ _ _ (by omega), h.tot, h.free (b + k) (Nat.le_refl _) (by omega), Lm.dv, Int.sub_zero]
  · rw [Lm.upd_other _ _ _ _ (by omega)]
    exact h.free j (by omega) h2

/-- got, k digits of the second taken out. -/
structure Got2 (w wr : World) (g b n : Nat) (D : Nat → Int) (T : Int) (k : Nat) (G : Nat → Int) : Prop where
  below : Below w.heap.size w wr
  size : wr.heap.size = g + 1
  row : Limbs wr g 140 G
  tot : Lm.tot G 140 = T - Lm.dv b D k
  free : ∀ j, b + k ≤ j → j < 140 → -70368744177664 ≤ G j ∧ G j ≤ 70368744177664
  lim : Lm.Within G 140 140737488355328

theorem got2_start {w wr : World} {g b n : Nat} {D : Nat → Int} {k : Nat} {G : Nat → Int} (h : Got1 w wr g b n D k G) (b' n' : Nat) (D' : Nat → Int) : Got2 w wr g b' n' D' (Lm.dv b D k) 0 G :=
  ⟨h.below, h.size, h.row, by rw [h.tot, Lm.dv, Int.sub_zero], fun j _ hj => h.lim j hj, fun j hj => by have := h.lim j hj; omega⟩

theorem got2_step {w wr : World} {g b n : Nat} {D : Nat → Int} {T : Int} {k : Nat} {G : Nat → Int} (h : Got2 w wr g b n D T k G) (hg : w.heap.size ≤ g) (hk : k < n) (hb : b + n ≤ 140) (hl : -70368744177664 ≤ D k ∧ D k ≤ 70368744177664) :
    Got2 w (wr.setCell ⟨g, b + k, none⟩ (.int .i64 (G (b + k) - D k))).drew g b n D T (k + 1) (Lm.upd G (b + k) (G (b + k) - D k)) := by
  have hf := h.free (b + k) (Nat.le_refl _) (by omega)
  refine ⟨(h.below.setCell (by show w.heap.size ≤ g; exact hg) _).drew, by simp [h.size], (h.row.set _ _).drew, ?_, fun j h1 h2 => ?_, Lm.within_upd h.lim (Int.le_refl _) _ _ (by omega) (by omega)⟩
  · rw [Lm.tot_upd _ _ _ _ (by omega), h.tot, Lm.dv, show G (b + k) - D k - G (b + k) = -(D k) from by omega, Int.neg_mul]
    omega
  · rw [Lm.upd_other _ _ _ _ (by omega)]
    exact h.free j (by omega) h2

/-- want, k values laid in; got as it stood. -/
structure Want (w wr : World) (X : Nat → Nat) (sq : Bool) (k : Nat) (G H : Nat → Int) : Prop where
  below : Below w.heap.size w wr
  size : wr.heap.size = w.heap.size + 2
  got : Limbs wr w.heap.size 140 G
  row : Limbs wr (w.heap.size + 1) 140 H
  tot : Lm.tot H 140 = usum X sq k
  lim : Lm.Within H 140 ((k : Int) * 12884901888)

theorem Limbs.of_block {w w' : World} {b n : Nat} {g : Nat → Int} (h : Limbs w b n g) (e : w'.heap[b]? = w.heap[b]?) : Limbs w' b n g := World.rowIs.of_block h e

theorem want_start {w wr : World} {X : Nat → Nat} {sq : Bool} {G : Nat → Int} (hb : Below w.heap.size w wr) (hs : wr.heap.size = w.heap.size + 1) (hg : Limbs wr w.heap.size 140 G) :
    Want w (wr.alloc (.cells (madeCells #[.int .i64 0] 140) 2)) X sq 0 G (fun _ => 0) := by
  have hr : Limbs (wr.alloc (.cells (madeCells #[.int .i64 0] 140) 2)) (w.heap.size + 1) 140 (fun _ => 0) := by
    rw [← hs]
    exact World.rowIs_made wr _ 140 2
  exact ⟨hb.alloc (by omega) _, by simp [hs], World.rowIs.alloc hg _, hr, Lm.tot_zero 140, fun _ _ => by omega⟩

theorem want_step {w wr w' : World} {X : Nat → Nat} {sq : Bool} {k : Nat} {G H H' : Nat → Int} (h : Want w wr X sq k G H) (hL : Limbs w' (w.heap.size + 1) 140 H') (hO : Only (w.heap.size + 1) wr w')
    (ht : Lm.tot H' 140 = Lm.tot H 140 + uval (X k) sq) (hW : Lm.Within H' 140 ((k : Int) * 12884901888 + 12884901888)) : Want w w' X sq (k + 1) G H' :=
  ⟨h.below.trans (hO.below (by omega)), hO.size.trans h.size, h.got.of_block (hO.block _ (by omega)), hL, by rw [ht, h.tot]; rfl, fun j hj => by have := hW j hj; omega⟩

set_option maxHeartbeats 4000000 in
set_option maxRecDepth 100000 in
theorem matches16 (a1 a2 af : Option Addr) (n1 n2 nf c1 c2 cf b1 b2 g1 g2 fb fo : Nat) (D1 D2 : Nat → Int) (X : Nat → Nat) (sq : Bool) (w : World)
    (h1 : Dg w a1 n1 g1 D1) (h2 : Dg w a2 n2 g2 D2) (hX : Fs w af nf fb fo X) (hb1 : b1 + n1 ≤ 140) (hb2 : b2 + n2 ≤ 140) (hnf : nf ≤ 4096)
    (heq : Hid (Lm.dv b1 D1 n1 - Lm.dv b2 D2 n2 = usum X sq nf)) :
    Calls Try.prog 16 #[.slice a1 n1 c1, .int .i64 b1, .slice a2 n2 c2, .int .i64 b2, .slice af nf cf, .bool sq] w (Matches w) := by
  have hmk : ∀ w, (Instr.makeSlice 22 (.int .i64 140) (.int .i64 140)).run Try.prog w = .ok (.slice (some ⟨w.heap.size, 0, none⟩) 140 140) (w.alloc (.cells (madeCells #[.int .i64 0] 140) 2)) :=
    fun w => run_make_row' (P := Try.prog) 22 2 (.int .i64 0) 8 Try.underlying22 Try.info2 rfl .i64 .i64 140 (by omega) (by omega) w
  go_enter Try.func16, Try.ntmps16
  go_upto_if 23 with (fail)
  go_cut [13, 14] from 21 (fun lo hi wx => lo = .int .i64 0 ∧ hi = .int .i64 140 ∧ w = wx)
  case first =>
    by_cases hn1 : 0 < n1
    · go_wp2
      go_meet
      case rel => exact ⟨rfl, rfl, rfl⟩
    · go_wp2
      go_meet
      case rel => exact ⟨rfl, rfl, rfl⟩
  case rest =>
    obtain ⟨rfl, rfl, rfl⟩ := hcut
    go_upto_if 51 with (fail)
    go_cut [13, 14] from 21 (fun lo hi wx => lo = .int .i64 0 ∧ hi = .int .i64 140 ∧ w = wx)
    case first =>
      by_cases hn2 : 0 < n2
      · go_wp2
        go_meet
        case rel => exact ⟨rfl, rfl, rfl⟩
      · go_wp2
        go_meet
        case rel => exact ⟨rfl, rfl, rfl⟩
    case rest =>
      obtain ⟨rfl, rfl, rfl⟩ := hcut
      go_wp2
      go_loopw [16] (fun si wr => ∃ (k : Nat) (G : Nat → Int), k ≤ n1 ∧ si = .int .i64 k ∧ Got1 w wr w.heap.size b1 n1 D1 k G) (fun si _ => n1 - (intOf si).toNat)
      case atStart => exact ⟨0, _, Nat.zero_le _, rfl, got1_start w b1 n1 D1⟩
      case round =>
        obtain ⟨k, G, hk, rfl, hG⟩ := hrel
        by_cases hlt : k < n1
        · have had := h1.ad (by omega)
          have cD := h1.cell k hlt
          have hl := h1.lim k hlt
          have c1 := (hG.below.cell (p := ⟨g1, k, none⟩) (World.block_lt_of_cell? _ _ cD)).trans cD
          have c0 : wr.cell? ⟨w.heap.size, b1 + k, none⟩ = some (.int .i64 0) := by rw [← hG.free (b1 + k) (Nat.le_refl _) (by omega)]; exact hG.row.cell (by omega)
          have f0 := hG.row.frozen (b1 + k)
          have hS := got1_step hG (Nat.le_refl _) hlt hb1 hl
          have hi1 : ((b1 : Int) + (k : Int)) < 140 := by omega
          clear cD
          go_wp2
          go_region
          all_goals go_wp2
          all_goals go_roundw
          case rel => exact ⟨k + 1, _, by omega, by go_num, hS⟩
          case measure => simp [intOf]; omega
        · obtain rfl : k = n1 := by omega
          have hG2 := got2_start hG b2 n2 D2
          clear hG
          go_wp2
          go_loopw [17] (fun si wr => ∃ (j : Nat) (G : Nat → Int), j ≤ n2 ∧ si = .int .i64 j ∧ Got2 w wr w.heap.size b2 n2 D2 (Lm.dv b1 D1 k) j G) (fun si _ => n2 - (intOf si).toNat)
          case atStart => exact ⟨0, G, Nat.zero_le _, rfl, hG2⟩
          case round =>
            obtain ⟨j, G', hj, rfl, hG⟩ := hrel
            clear hG2
            by_cases hlt : j < n2
            · have had := h2.ad (by omega)
              have cD := h2.cell j hlt
              have hl := h2.lim j hlt
              have c1 := (hG.below.cell (p := ⟨g2, j, none⟩) (World.block_lt_of_cell? _ _ cD)).trans cD
              have c0 : wr.cell? ⟨w.heap.size, b2 + j, none⟩ = some (.int .i64 (G' (b2 + j))) := hG.row.cell (by omega)
              have f0 := hG.row.frozen (b2 + j)
              have hf := hG.free (b2 + j) (Nat.le_refl _) (by omega)
              have hS := got2_step hG (Nat.le_refl _) hlt hb2 hl
              have hi1 : ((b2 : Int) + (j : Int)) < 140 := by omega
              clear cD
              go_wp2
              go_region
              all_goals go_wp2
              all_goals go_roundw
              case rel => exact ⟨j + 1, _, by omega, by go_num, hS⟩
              case measure => simp [intOf]; omega
            · obtain rfl : j = n2 := by omega
              have hsz : Hid (wr.heap.size = w.heap.size + 1) := hG.size
              have hW0 := want_start (X := X) (sq := sq) hG.below hG.size hG.row
              have HTG : Hid (Lm.tot G' 140 = Lm.dv b1 D1 k - Lm.dv b2 D2 j) := hG.tot
              have hlG : Lm.Within G' 140 1125899906842624 := fun i hi => by have := hG.lim i hi; omega
              have hsz' := hG.size
              clear hG
              go_wp2
              clear hsz'
              go_loopw [19] (fun si wx => ∃ (t : Nat) (H : Nat → Int), t ≤ nf ∧ si = .int .i64 t ∧ Want w wx X sq t G' H) (fun si _ => nf - (intOf si).toNat)
              case atStart => exact ⟨0, _, Nat.zero_le _, rfl, hW0⟩
              case round =>
                obtain ⟨t, H, ht, rfl, hW⟩ := hrel
                clear hW0
                by_cases hlt : t < nf
                · obtain rfl := hX.ad (by omega)
                  have cD := hX.cell t hlt
                  have c1 := (hW.below.cell (p := ⟨fb, fo + t, none⟩) (World.block_lt_of_cell? _ _ cD)).trans cD
                  have hxl := hX.lt t hlt
                  have hxf := hX.fin t hlt
                  clear cD
                  go_wp2_with fail
                  refine (addValue20 (w.heap.size + 1) (X t) sq H ((t : Int) * 12884901888) wr hW.row hW.lim (by omega) hxl hxf).mono ?_
                  rintro e w2 ⟨rfl, H', hL', hO', ht', hW'⟩
                  have hS := want_step hW hL' hO' ht' hW'
                  clear hL' hO' ht' hW'
                  go_wp2
                  go_roundw
                  case rel => exact ⟨t + 1, _, by omega, by go_num, hS⟩
                  case measure => simp [intOf]; omega
                · obtain rfl : t = nf := by omega
                  go_wp2_with fail
                  refine (norm21 w.heap.size G' wr hW.got hlG).mono ?_
                  rintro e w2 ⟨rfl, G2, hL2, hO2, hC2, ht2⟩
                  have hr2 : Limbs w2 (w.heap.size + 1) 140 H := hW.row.of_block (hO2.block _ (by omega))
                  have hlH : Lm.Within H 140 1125899906842624 := fun i hi => by have := hW.lim i hi; omega
                  go_wp2_with fail
                  refine (norm21 (w.heap.size + 1) H w2 hr2 hlH).mono ?_
                  rintro e w3 ⟨rfl, H3, hL3, hO3, hC3, ht3⟩
                  have hg3 : Limbs w3 w.heap.size 140 G2 := hL2.of_block (hO3.block _ (by omega))
                  have hb3 : Below w.heap.size w w3 := (hW.below.trans (hO2.below (Nat.le_refl _))).trans (hO3.below (by omega))
                  have hsame : ∀ i, i < 140 → G2 i = H3 i := Lm.unique 139 hC2 hC3 (by rw [ht2, ht3, hW.tot, HTG.out]; exact heq.out)
                  have hg4 : Limbs w3 w.heap.size 140 H3 := World.rowIs.congr hg3 (fun i hi => by rw [hsame i hi])
                  clear hsame hg3 hL2 hO2 hC2 ht2 hr2 hO3 hC3 ht3 hW
                  go_wp2
                  go_loopw [20] (fun si wx => ∃ i q : Nat, i ≤ 140 ∧ si = .int .i64 i ∧ wx = w3.drewN q) (fun si _ => 140 - (intOf si).toNat)
                  case atStart => exact ⟨0, 0, Nat.zero_le _, rfl, rfl⟩
                  case round =>
                    obtain ⟨i, q, hi, rfl, rfl⟩ := hrel
                    by_cases hlt : i < 140
                    · have c0 := hg4.cell hlt
                      have c1 := hL3.cell hlt
                      go_wp2
                      go_quiet (fail)
                      go_wp2
                      go_roundw
                      case rel => exact ⟨i + 1, _, by omega, by go_num, rfl⟩
                      case measure => simp [intOf]; omega
                    · go_wp2
                      go_ret
                      exact ⟨rfl, hb3.os, hb3.tape, hb3.output, hb3.size, hb3.block⟩

end Go.Proofs.Qxb6614701a
