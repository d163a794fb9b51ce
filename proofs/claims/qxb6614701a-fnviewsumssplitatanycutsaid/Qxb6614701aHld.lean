import Derived.Test.Qxb6614701aCln
import Derived.Lib.Strings
namespace Go.Proofs.Qxb6614701a
open Go.RowKit

/-- The row of floats in hand: k of the held are in. -/
structure Row (w wr : World) (v : Value) (L st : Nat) (Y : Nat → Nat) (k : Nat) : Prop where
  below : Below w.heap.size w wr
  own : wr.ownsRow w.heap.size 41 1 v k ((List.range k).map fun i => Value.float .f64 (Y (ring L st i)))
  some_ : ∃ g cap, v = .slice (some ⟨g, 0, none⟩) k cap

theorem own_shape' {w : World} {base : Nat} {e : TypeId} {v : Value} {n : Nat} {xs : List Value} (h : w.ownsRow base e 1 v n xs) (hn : 0 < n) : ∃ g cap, v = .slice (some ⟨g, 0, none⟩) n cap := by
  rcases h.2 with ⟨_, h2⟩ | ⟨g, cap, cur, h1, _⟩
  · omega
  · exact ⟨g, cap, h1⟩

theorem row_start (w : World) (L st : Nat) (Y : Nat → Nat) (hL : L ≤ 4096) : Row w (w.alloc (.cells (madeCells #[.float .f64 0] L) 41)) (.slice (some ⟨w.heap.size, 0, none⟩) 0 L) L st Y 0 :=
  ⟨(Below.refl _ _).alloc (Nat.le_refl _) _, ⟨rfl, .inr ⟨w.heap.size, L, madeCells #[.float .f64 0] L, rfl, Nat.le_refl _, heap_alloc_new _ _, Nat.zero_le _, by unfold maxLen; omega, by rw [size_madeCells]; simp, by simp⟩⟩, ⟨_, _, rfl⟩⟩

theorem row_step {w wr w1 : World} {v v' : Value} {L st : Nat} {Y : Nat → Nat} {k : Nat} {o : Obj} (h : Row w wr v L st Y k) (hg : (wr.alloc o).grownBy w1 v.ownBlock) {x : Nat} (hx : x = Y (ring L st k))
    (ho : w1.ownsRow w.heap.size 41 1 v' (k + 1) (((List.range k).map fun i => Value.float .f64 (Y (ring L st i))) ++ [.float .f64 x])) : Row w w1 v' L st Y (k + 1) := by
  refine ⟨(h.below.alloc h.below.size o).grown hg (by have := h.below.size; simp; omega) (fun j hj => (h.own.lt j hj).1), ?_, ?_⟩
  · rw [List.range_succ, List.map_append]
    subst hx
    exact ho
  · exact own_shape' ho (by omega)

/-- What ieHeldF leaves: the held in order. -/
def HeldF (w : World) (L st n : Nat) (Y : Nat → Nat) (e : Ending) (w' : World) : Prop :=
  ∃ g cap, e = .returned (.slice (some ⟨g, 0, none⟩) n cap) ∧ w.heap.size ≤ g ∧ g < w'.heap.size ∧ n ≤ cap ∧ cap ≤ maxLen ∧ Below w.heap.size w w' ∧ ∀ i, i < n → w'.cell? ⟨g, i, none⟩ = some (.float .f64 (Y (ring L st i)))

theorem held_ok {w wr : World} {g cap L st : Nat} {Y : Nat → Nat} {n : Nat} (h : Row w wr (.slice (some ⟨g, 0, none⟩) L cap) L st Y L) (hn : n ≤ L) : HeldF w L st n Y (.returned (.slice (some ⟨g, 0, none⟩) n cap)) wr := by
  have hlt := h.own.lt g rfl
  refine ⟨g, cap, rfl, hlt.1, hlt.2, ?_, ?_, h.below, fun i hi => ?_⟩
  · rcases h.own.2 with ⟨h1, _⟩ | ⟨g', cap', cur, e, _, _, h3, h4, _⟩
    · cases h1
    · obtain ⟨rfl, rfl⟩ : g = g' ∧ cap = cap' := by simpa using e
      omega
  · rcases h.own.2 with ⟨h1, _⟩ | ⟨g', cap', cur, e, _, _, h3, h4, _⟩
    · cases h1
    · obtain ⟨rfl, rfl⟩ : g = g' ∧ cap = cap' := by simpa using e
      exact h4
  · have hiL : i < L := by omega
    have := h.own.cells (g := g) rfl i (.float .f64 (Y (ring L st i))) (by simp [hiL])
    rw [Addr.add_lit, Nat.zero_add] at this
    exact this

set_option maxHeartbeats 1000000 in
set_option maxRecDepth 100000 in
theorem heldF7 (a : Option Addr) (L c b o st n : Nat) (Y : Nat → Nat) (w : World) (h : Fc w a L b o Y) (hL : L ≤ 4096) (hst : st ≤ L) (hn : n ≤ L) :
    Calls Try.prog 7 #[.slice a L c, .int .i64 st, .int .i64 n] w (HeldF w L st n Y) := by
  obtain ⟨i0, hi, hz0, hz1, hz2⟩ := info_parts Try.info41
  have hmk : ∀ w, (Instr.makeSlice 23 (.int .i64 0) (.int .i64 L)).run Try.prog w = .ok (.slice (some ⟨w.heap.size, 0, none⟩) 0 L) (w.alloc (.cells (madeCells #[.float .f64 0] L) 41)) := fun w => by
    have hr := run_make (P := Try.prog) w 23 41 i0 (.float .f64 0) Try.underlying23 hi hz0 .i64 .i64 0 L (by omega) (by omega) (by rw [hz2]; omega) (by omega)
    simp only [Int.toNat_natCast, hz1, Nat.mul_one] at hr
    exact hr
  go_enter Try.func7, Try.ntmps7
  go_wp2
  clear hmk
  go_loopw [7, 8] (fun v si wr => ∃ k : Nat, st + k ≤ L ∧ si = .int .i64 ((st + k : Nat) : Int) ∧ Row w wr v L st Y k) (fun _ si _ => L - (intOf si).toNat)
  case atStart => exact ⟨0, hst, by simp, row_start w L st Y hL⟩
  case round =>
    obtain ⟨k, hk, rfl, hR⟩ := hrel
    obtain ⟨g, cap, rfl⟩ := hR.some_
    by_cases hlt : st + k < L
    · obtain rfl := h.ad (by omega)
      have c0 := h.cell (st + k) hlt
      have cX := (hR.below.cell (p := ⟨b, o + (st + k), none⟩) (World.block_lt_of_cell? _ _ c0)).trans c0
      have hlt2 : ((st : Int) + (k : Int)) < (L : Int) := by omega
      clear c0
      go_wp2_with (at_builtin; refine wpList_append_own _ rfl _ _ 23 rfl w.heap.size 41 i0 (.float .f64 0) 1 8 Try.underlying23 hi hz0 hz1 hz2 rfl (by decide) _ _ _ rfl (hR.own.alloc _) ⟨wr.heap.size, 0, none⟩ 1 1 [.float .f64 (Y (st + k))] rfl rfl ?c1 ?c2 ?c3 ?c4 ?c5 ?_)
      case c1 =>
        intro j u hj
        match j, hj with
        | 0, hj => simp at hj; subst hj; simp [Addr.add]
      case c2 => intro u hu; simp at hu; subst hu; rfl
      case c3 => unfold maxLen; omega
      case c4 => omega
      case c5 => have := hR.below.size; simp; omega
      intro v' w1 hown' hgrow _
      have hS := row_step hR hgrow (x := Y (st + k)) (by unfold ring; rw [if_pos hlt]) hown'
      clear hgrow hown'
      go_wp2
      go_roundw
      case rel => exact ⟨k + 1, by omega, by go_num, hS⟩
      case measure => simp only [intOf]; omega
    · have hk2 : st + k = L := by omega
      have hlt2 : ¬ ((st : Int) + (k : Int)) < (L : Int) := by omega
      have HK : Hid (st + k = L) := hk2
      clear hk2
      go_wp2
      go_loopw [7, 9] (fun v si wr => ∃ j : Nat, j ≤ st ∧ si = .int .i64 j ∧ Row w wr v L st Y (k + j)) (fun _ si _ => st - (intOf si).toNat)
      case atStart => exact ⟨0, Nat.zero_le _, rfl, hR⟩
      case round =>
        clear hR
        obtain ⟨j, hj, rfl, hR⟩ := hrel
        obtain ⟨g, cap, rfl⟩ := hR.some_
        by_cases hlt3 : j < st
        · obtain rfl := h.ad (by omega)
          have c0 := h.cell j (by omega)
          have cX := (hR.below.cell (p := ⟨b, o + j, none⟩) (World.block_lt_of_cell? _ _ c0)).trans c0
          have hjL : j < L := by omega
          clear c0
          go_wp2_with (at_builtin; refine wpList_append_own _ rfl _ _ 23 rfl w.heap.size 41 i0 (.float .f64 0) 1 8 Try.underlying23 hi hz0 hz1 hz2 rfl (by decide) _ _ _ rfl (hR.own.alloc _) ⟨wr.heap.size, 0, none⟩ 1 1 [.float .f64 (Y j)] rfl rfl ?c1 ?c2 ?c3 ?c4 ?c5 ?_)
          case c1 =>
            intro j u hj
            match j, hj with
            | 0, hj => simp at hj; subst hj; simp [Addr.add]
          case c2 => intro u hu; simp at hu; subst hu; rfl
          case c3 => unfold maxLen; omega
          case c4 => omega
          case c5 => have := hR.below.size; simp; omega
          intro v' w1 hown' hgrow _
          have hS := row_step hR hgrow (x := Y j) (by have := HK.out; unfold ring; rw [if_neg (by omega)]; congr 1; omega) hown'
          clear hgrow hown'
          go_wp2
          go_roundw
          case rel => exact ⟨j + 1, by omega, by go_num, hS⟩
          case measure => simp only [intOf]; omega
        · obtain rfl : j = st := by omega
          have hkj : k + j = L := by have := HK.out; omega
          have hO : HeldF w L j n Y (.returned (.slice (some ⟨g, 0, none⟩) n cap)) wr := by
            rw [hkj] at hR
            exact held_ok hR hn
          have hcap : n ≤ cap := by obtain ⟨g', cap', e, _, _, h4, _⟩ := hO; simp at e; omega
          have hcm : cap ≤ maxLen := by obtain ⟨g', cap', e, _, _, _, h4, _⟩ := hO; simp at e; omega
          have hcm2 : cap ≤ 9223372036854775807 := Nat.le_trans hcm (by unfold maxLen; omega)
          clear hkj hR hcm
          go_wp2
          go_ret
          exact hO

@[go_sem] theorem run_store_float (P : Program) (w : World) (a : Addr) (m : Mode) (k : FloatKind) (b : Nat) : (store a (.float k b) m).run P w = stored P w a (.float k b) m := run_store P w a _ m rfl

/-- What the clone of the times leaves: a slice, nothing turned. -/
def CloneI (w : World) (e : Ending) (w' : World) : Prop := ∃ a n c, e = .returned (.slice a n c) ∧ Below w.heap.size w w'

/-- .. of the values: the same values, of the call's own. -/
def CloneF (w : World) (L : Nat) (Y : Nat → Nat) (e : Ending) (w' : World) : Prop :=
  ∃ a c g, e = .returned (.slice a L c) ∧ Below w.heap.size w w' ∧ Vals w' a L g 0 Y

/-- k of n are in. -/
structure Cl (w wr : World) (e : TypeId) (n : Nat) (Z : Nat → Value) (z : Value) (k : Nat) : Prop where
  below : Below w.heap.size w wr
  row : wr.rowIs w.heap.size e n (fun i => if i < k then Z i else z)

theorem cl_start (w : World) (e : TypeId) (n : Nat) (Z : Nat → Value) (z : Value) : Cl w (w.alloc (.cells (madeCells #[z] n) e)) e n Z z 0 :=
  ⟨(Below.refl _ _).alloc (Nat.le_refl _) _, (World.rowIs_made w z n e).congr (fun j _ => by simp)⟩

theorem cl_step {w wr : World} {e : TypeId} {n : Nat} {Z : Nat → Value} {z : Value} {k : Nat} (h : Cl w wr e n Z z k) : Cl w (wr.setCell ⟨w.heap.size, k, none⟩ (Z k)) e n Z z (k + 1) := by
  refine ⟨h.below.setCell (Nat.le_refl _) _, (h.row.set k _).congr (fun i _ => ?_)⟩
  by_cases e1 : i = k
  · subst e1; simp
  · rw [if_neg e1]
    by_cases hlt : i < k
    · rw [if_pos hlt, if_pos (by omega)]
    · rw [if_neg hlt, if_neg (by omega)]

set_option maxHeartbeats 1000000 in
set_option maxRecDepth 100000 in
theorem cloneF11 (a : Option Addr) (L c b o : Nat) (Y : Nat → Nat) (w : World) (h : Fc w a L b o Y) (hL : L ≤ 4096) (hnil : a = none → L = 0) : Calls Try.prog 11 #[.slice a L c] w (CloneF w L Y) := by
  have hmk : ∀ w, (Instr.makeSlice 23 (.int .i64 L) (.int .i64 L)).run Try.prog w = .ok (.slice (some ⟨w.heap.size, 0, none⟩) L L) (w.alloc (.cells (madeCells #[.float .f64 0] L) 41)) :=
    fun w => run_make_row' (P := Try.prog) 23 41 (.float .f64 0) 8 Try.underlying23 Try.info41 rfl .i64 .i64 L (by omega) (by omega) w
  have q23 : ∀ (w : World) (a : Option Addr) (n c n' c' : Nat), (binOp .eql 23 (.slice a n c) (.slice none n' c')).run Try.prog w = .ok (.bool a.isNone) w := fun w a n c n' c' => Lib.run_eql_slice_nil w _ _ a n c n' c' Try.underlying23
  cases a with
  | none =>
    obtain rfl := hnil rfl
    go_enter Try.func11, Try.ntmps11
    go_wp2
    go_ret
    exact ⟨none, 0, 0, rfl, Below.refl _ _, ⟨fun h => absurd h (by omega), fun i hi => absurd hi (by omega)⟩⟩
  | some ad =>
    go_enter Try.func11, Try.ntmps11
    go_wp2
    clear hmk q23
    go_loopw [4] (fun si wr => ∃ k : Nat, k ≤ L ∧ si = .int .i64 k ∧ Cl w wr 41 L (fun i => .float .f64 (Y i)) (.float .f64 0) k) (fun si _ => L - (intOf si).toNat)
    case atStart => exact ⟨0, Nat.zero_le _, rfl, cl_start w _ _ _ _⟩
    case round =>
      obtain ⟨k, hk, rfl, hC⟩ := hrel
      by_cases hlt : k < L
      · obtain rfl : ad = ⟨b, o, none⟩ := by have := h.ad (by omega); simpa using this
        have c0 := h.cell k hlt
        have cX := (hC.below.cell (p := ⟨b, o + k, none⟩) (World.block_lt_of_cell? _ _ c0)).trans c0
        have cR : wr.cell? ⟨w.heap.size, k, none⟩ = some (.float .f64 0) := by rw [hC.row.cell hlt, if_neg (by omega)]
        have fR := hC.row.frozen k
        have hS := cl_step hC
        have hbs := World.block_lt_of_cell? _ _ cR
        clear c0
        go_wp2
        go_roundw
        case rel => exact ⟨k + 1, by omega, by go_num, hS⟩
        case measure => simp [intOf]; omega
      · obtain rfl : k = L := by omega
        go_wp2
        go_ret
        exact ⟨_, _, w.heap.size, rfl, hC.below, ⟨fun _ => rfl, fun i hi => by rw [Nat.zero_add, hC.row.cell hi, if_pos hi]⟩⟩

set_option maxHeartbeats 1000000 in
set_option maxRecDepth 100000 in
theorem cloneI10 (a : Option Addr) (L c b o : Nat) (T : Nat → Int) (w : World) (had : 0 < L → a = some ⟨b, o, none⟩) (hc : ∀ i, i < L → w.cell? ⟨b, o + i, none⟩ = some (.int .i64 (T i))) (hL : L ≤ 4096) (hnil : a = none → L = 0) : Calls Try.prog 10 #[.slice a L c] w (CloneI w) := by
  have hmk : ∀ w, (Instr.makeSlice 22 (.int .i64 L) (.int .i64 L)).run Try.prog w = .ok (.slice (some ⟨w.heap.size, 0, none⟩) L L) (w.alloc (.cells (madeCells #[.int .i64 0] L) 2)) :=
    fun w => run_make_row' (P := Try.prog) 22 2 (.int .i64 0) 8 Try.underlying22 Try.info2 rfl .i64 .i64 L (by omega) (by omega) w
  have q22 : ∀ (w : World) (a : Option Addr) (n c n' c' : Nat), (binOp .eql 22 (.slice a n c) (.slice none n' c')).run Try.prog w = .ok (.bool a.isNone) w := fun w a n c n' c' => Lib.run_eql_slice_nil w _ _ a n c n' c' Try.underlying22
  cases a with
  | none =>
    obtain rfl := hnil rfl
    go_enter Try.func10, Try.ntmps10
    go_wp2
    go_ret
    exact ⟨none, 0, 0, rfl, Below.refl _ _⟩
  | some ad =>
    go_enter Try.func10, Try.ntmps10
    go_wp2
    clear hmk q22
    go_loopw [4] (fun si wr => ∃ k : Nat, k ≤ L ∧ si = .int .i64 k ∧ Cl w wr 2 L (fun i => .int .i64 (T i)) (.int .i64 0) k) (fun si _ => L - (intOf si).toNat)
    case atStart => exact ⟨0, Nat.zero_le _, rfl, cl_start w _ _ _ _⟩
    case round =>
      obtain ⟨k, hk, rfl, hC⟩ := hrel
      by_cases hlt : k < L
      · obtain rfl : ad = ⟨b, o, none⟩ := by have := had (by omega); simpa using this
        have c0 := hc k hlt
        have cX := (hC.below.cell (p := ⟨b, o + k, none⟩) (World.block_lt_of_cell? _ _ c0)).trans c0
        have cR : wr.cell? ⟨w.heap.size, k, none⟩ = some (.int .i64 0) := by rw [hC.row.cell hlt, if_neg (by omega)]
        have fR := hC.row.frozen k
        have hS := cl_step hC
        have hbs := World.block_lt_of_cell? _ _ cR
        clear c0
        go_wp2
        go_roundw
        case rel => exact ⟨k + 1, by omega, by go_num, hS⟩
        case measure => simp [intOf]; omega
      · obtain rfl : k = L := by omega
        go_wp2
        go_ret
        exact ⟨_, _, _, rfl, hC.below⟩

end Go.Proofs.Qxb6614701a
