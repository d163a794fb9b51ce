import Derived.Test.Qxb6614701aVwa
import Derived.Laws.AppendOwn
import Derived.Deep.OwnRows
import Derived.WalkSpells
namespace Go.Proofs.Qxb6614701a
open Go.RowKit

theorem Try.info41 : (Try.prog.info? 41).map (fun i => (i.zero, i.size, i.bytes)) = some (some (.float .f64 0), 1, 8) := by kernel_rfl

set_option maxRecDepth 100000 in
theorem tail8 (n : Nat) (c : Int) (w : World) : Calls Try.prog 8 #[.slice none 0 0, .int .i64 n, .int .i64 c, .int .i64 0] w (IntIs w (tailOf c n)) := by
  by_cases h0 : 0 < c
  · by_cases hlt : c < (n : Int)
    · have HT : Hid (((tailOf c n : Nat) : Int) = c) := by show _ = _; unfold tailOf; rw [if_pos h0, if_pos hlt]; omega
      go_enter Try.func8, Try.ntmps8
      go_wp2
      go_ret
      exact ⟨by rw [HT.out]; rfl, rfl⟩
    · have HT : Hid (tailOf c n = n) := by show _ = _; unfold tailOf; rw [if_pos h0, if_neg hlt]
      go_enter Try.func8, Try.ntmps8
      go_wp2
      go_ret
      exact ⟨by rw [HT.out]; rfl, rfl⟩
  · have HT : Hid (tailOf c n = n) := by show _ = _; unfold tailOf; rw [if_neg h0]
    go_enter Try.func8, Try.ntmps8
    go_wp2
    go_ret
    exact ⟨by rw [HT.out]; rfl, rfl⟩

def BoolIs (w : World) (P : Prop) (e : Ending) (w' : World) : Prop := ∃ b : Bool, e = .returned (.bool b) ∧ w' = w ∧ (b = true → P)

set_option maxRecDepth 100000 in
theorem bytes5 (a1 a2 : Option Addr) (n1 c1 n2 c2 : Nat) (st n pu c : Int) (sq : Bool) (w : World) (hn1 : n1 ≤ 9223372036854775807) (hn2 : n2 ≤ 9223372036854775807) :
    Calls Try.prog 5 #[.slice a1 n1 c1, .slice a2 n2 c2, .int .i64 st, .int .i64 n, .int .i64 pu, .int .i64 c, .bool sq] w (BoolIs w True) := by
  go_enter Try.func5, Try.ntmps5
  go_wp2
  all_goals go_ret
  all_goals exact ⟨_, rfl, rfl, fun _ => trivial⟩

set_option maxRecDepth 100000 in
theorem bytes17 (a1 a2 : Option Addr) (n1 c1 n2 c2 : Nat) (st n pu c d : Int) (sq : Bool) (w : World) (hn1 : n1 ≤ 9223372036854775807) (hn2 : n2 ≤ 9223372036854775807) :
    Calls Try.prog 17 #[.slice a1 n1 c1, .slice a2 n2 c2, .int .i64 st, .int .i64 n, .int .i64 pu, .int .i64 c, .int .i64 d, .bool sq] w (BoolIs w True) := by
  go_enter Try.func17, Try.ntmps17
  go_wp2
  all_goals go_ret
  all_goals exact ⟨_, rfl, rfl, fun _ => trivial⟩

/-- The window's shape. -/
def Shape (n1 n2 : Nat) (st n pu : Int) : Prop := n1 = n2 ∧ 0 ≤ n ∧ n ≤ (n2 : Int) ∧ n ≤ pu ∧ 0 ≤ st ∧ (0 < n2 → st < (n2 : Int)) ∧ (n2 = 0 → st = 0)

set_option maxRecDepth 100000 in
theorem shape6 (a1 a2 : Option Addr) (n1 c1 n2 c2 : Nat) (st n pu : Int) (w : World) (hn2 : n2 ≤ 4096) :
    Calls Try.prog 6 #[.slice a1 n1 c1, .slice a2 n2 c2, .int .i64 st, .int .i64 n, .int .i64 pu] w (BoolIs w (Shape n1 n2 st n pu)) := by
  by_cases e1 : n1 = n2
  · have f1 : ((n1 : Int) != (n2 : Int)) = false := by simp; omega
    have E1 : Hid (n1 = n2) := e1
    clear e1
    by_cases e2 : n < 0
    · go_enter Try.func6, Try.ntmps6
      go_wp2
      go_ret
      exact ⟨false, rfl, rfl, fun h => by cases h⟩
    · by_cases e3 : (n2 : Int) < n
      · go_enter Try.func6, Try.ntmps6
        go_wp2
        go_ret
        exact ⟨false, rfl, rfl, fun h => by cases h⟩
      · by_cases e4 : pu < n
        · go_enter Try.func6, Try.ntmps6
          go_wp2
          go_ret
          exact ⟨false, rfl, rfl, fun h => by cases h⟩
        · by_cases e5 : n2 = 0
          · subst e5
            go_enter Try.func6, Try.ntmps6
            go_wp2
            go_ret
            refine ⟨_, rfl, rfl, fun h => ?_⟩
            have h0 : st = 0 := by simpa using h
            exact ⟨by first | rfl | exact E1.out, by omega, by omega, by omega, by omega, fun h => by omega, fun _ => h0⟩
          · have f5 : ((n2 : Int) == 0) = false := by simp; omega
            by_cases e6 : st < 0
            · go_enter Try.func6, Try.ntmps6
              go_wp2
              go_ret
              exact ⟨false, rfl, rfl, fun h => by cases h⟩
            · go_enter Try.func6, Try.ntmps6
              go_wp2
              go_ret
              exact ⟨_, rfl, rfl, fun h => ⟨E1.out, by omega, by omega, by omega, by omega, fun _ => by simpa using h, fun h => by omega⟩⟩
  · have f1 : ((n1 : Int) != (n2 : Int)) = true := by simp; omega
    go_enter Try.func6, Try.ntmps6
    go_wp2
    go_ret
    exact ⟨false, rfl, rfl, fun h => by cases h⟩

/-- A slice of floats of any kind. -/
structure Fc (w : World) (a : Option Addr) (n b o : Nat) (X : Nat → Nat) : Prop where
  ad : 0 < n → a = some ⟨b, o, none⟩
  cell : ∀ i, i < n → w.cell? ⟨b, o + i, none⟩ = some (.float .f64 (X i))

def FinIs (w : World) (n : Nat) (X : Nat → Nat) (e : Ending) (w' : World) : Prop := ∃ b : Bool, e = .returned (.bool b) ∧ Below w.heap.size w w' ∧ (b = true → w'.heap = w.heap ∧ ∀ i, i < n → Fl.Fin (X i))

/-- The bits that the tape gives for x - x where that is no number. -/
def nanBits (w : World) (x : Nat) : Nat := (Question.nanBits .f64 x x).cut (w.tape w.drawn (.nanBits .f64 x x))

theorem run_nan {x : Nat} (h : ¬ Fl.Fin x) (w : World) : (binOp .sub 41 (.float .f64 x) (.float .f64 x)).run Try.prog w = .ok (.float .f64 (nanBits w x)) w.drew := by
  have hs : FloatKind.f64.format.sub x x = none := Fl.sub_none h
  simp [binOp, Op.floatArith, hs, Question.forced, nanBits]

theorem nan_order (w : World) (x : Nat) : (FloatKind.f64.format.order (nanBits w x) 0 != some .eq) = true := by
  have : ∃ s m, nanBits w x = s * 9223372036854775808 + 9218868437227405313 + m ∧ s < 2 ∧ m < 4503599627370495 := by
    unfold nanBits Question.cut
    generalize w.tape w.drawn (Question.nanBits FloatKind.f64 x x) = t
    refine ⟨t % 2, (t / 2) % 4503599627370495, ?_, Nat.mod_lt _ (by omega), Nat.mod_lt _ (by omega)⟩
    simp only [Nat.reducePow, Nat.reduceSub]
  obtain ⟨s, m, e, hs, hm⟩ := this
  rw [e, show FloatKind.f64.format = Ieee.double from rfl]
  unfold Ieee.Format.order Ieee.Format.read
  dsimp only
  have h1 : (s * 9223372036854775808 + 9218868437227405313 + m) % Ieee.double.signWeight = 9218868437227405313 + m := by
    show (s * 9223372036854775808 + 9218868437227405313 + m) % 9223372036854775808 = _
    omega
  rw [h1, if_neg (show ¬ 9218868437227405313 + m < Ieee.double.binade from by show ¬ _ < 4503599627370496; omega), if_neg (show ¬ 9218868437227405313 + m < Ieee.double.infRung from by show ¬ _ < 9218868437227405312; omega), if_neg (show ¬ 9218868437227405313 + m = Ieee.double.infRung from by show ¬ _ = 9218868437227405312; omega)]
  rfl

set_option maxHeartbeats 1000000 in
set_option maxRecDepth 100000 in
theorem allFinite9 (a : Option Addr) (n c b o : Nat) (X : Nat → Nat) (w : World) (h : Fc w a n b o X) (hn : n ≤ 4096) : Calls Try.prog 9 #[.slice a n c] w (FinIs w n X) := by
  go_enter Try.func9, Try.ntmps9
  go_wp2
  go_loopw [3] (fun si wr => ∃ k q : Nat, k ≤ n ∧ si = .int .i64 k ∧ wr = w.drewN q ∧ ∀ i, i < k → Fl.Fin (X i)) (fun si _ => n - (intOf si).toNat)
  case atStart => exact ⟨0, 0, Nat.zero_le _, rfl, rfl, fun i hi => by omega⟩
  case round =>
    obtain ⟨k, q, hk, rfl, rfl, hF⟩ := hrel
    by_cases hlt : k < n
    · obtain rfl := h.ad (by omega)
      have cX := h.cell k hlt
      have hbs := World.block_lt_of_cell? _ _ cX
      by_cases hf : Fl.Fin (X k)
      · have hs : ∀ w, (binOp .sub 41 (.float .f64 (X k)) (.float .f64 (X k))).run Try.prog w = .ok (.float .f64 0) w := fun w => run_float_arith w .sub 41 .f64 _ _ 0 (Fl.sub_self hf)
        have hz : (FloatKind.f64.format.order 0 0 != some .eq) = false := by decide
        go_wp2
        go_quiet (fail)
        go_wp2
        go_roundw
        case rel => exact ⟨k + 1, _, by omega, by go_num, rfl, fun i hi => by
          by_cases e : i = k
          · subst e; exact hf
          · exact hF i (by omega)⟩
        case measure => simp [intOf]; omega
      · have hs := fun w => run_nan hf w
        have hz := fun w => nan_order w (X k)
        go_wp2
        go_region
        all_goals go_wp2
        all_goals go_ret
        all_goals exact ⟨false, rfl, ⟨rfl, rfl, rfl, Nat.le_refl _, fun _ _ => rfl⟩, fun h => by cases h⟩
    · obtain rfl : k = n := by omega
      go_wp2
      go_ret
      exact ⟨true, rfl, ⟨rfl, rfl, rfl, Nat.le_refl _, fun _ _ => rfl⟩, fun _ => ⟨rfl, hF⟩⟩

end Go.Proofs.Qxb6614701a
