import Derived.Test.Qxb6614701aSum
import Derived.Test.Qxb6614701aPut
import Derived.Test.Qxb6614701aApz
import Derived.Laws.CopyOwn
namespace Go.Proofs.Qxb6614701a
namespace Lm

theorem dv_congr {b n : Nat} {D D' : Nat → Int} (h : ∀ i, i < n → D i = D' i) : dv b D n = dv b D' n := by
  induction n with
  | zero => rfl
  | succ n ih => rw [dv, dv, ih (fun i hi => h i (by omega)), h n (by omega)]

theorem dv_zeros {b n : Nat} {D : Nat → Int} (m : Nat) (h : ∀ i, n ≤ i → i < n + m → D i = 0) : dv b D (n + m) = dv b D n := by
  induction m with
  | zero => rfl
  | succ m ih => rw [← Nat.add_assoc, dv, ih (fun i h1 h2 => h i h1 (by omega)), h (n + m) (by omega) (by omega), Int.zero_mul, Int.add_zero]

theorem dv_nought {b n : Nat} {D : Nat → Int} (h : ∀ i, i < n → D i = 0) : dv b D n = 0 := by
  have := dv_zeros (b := b) (n := 0) (D := D) n (fun i _ hi => h i (by omega))
  rw [Nat.zero_add] at this
  exact this

theorem dv_shift (b s n : Nat) (D D' : Nat → Int) (h0 : ∀ i, i < s → D' i = 0) (h1 : ∀ i, i < n → D' (s + i) = D i) : dv b D' (s + n) = dv (b + s) D n := by
  induction n with
  | zero => rw [Nat.add_zero, dv_nought h0]; rfl
  | succ n ih => rw [← Nat.add_assoc, dv, dv, ih (fun i hi => h1 i (by omega)), h1 n (by omega), Nat.add_assoc]

theorem dv_upd (b n i : Nat) (D : Nat → Int) (v : Int) (h : i < n) : dv b (upd D i v) n = dv b D n + (v - D i) * ((2 ^ (32 * (b + i)) : Nat) : Int) := by
  induction n with
  | zero => omega
  | succ n ih =>
    rw [dv, dv]
    by_cases e : i = n
    · subst e
      rw [upd_same, dv_congr (D := upd D i v) (D' := D) (fun j hj => upd_other D i j v (by omega)), Int.sub_mul]
      omega
    · rw [ih (by omega), upd_other D i n v (by omega)]
      omega

end Lm
open Go.RowKit

/-- A slice of digits of the call's own, from block B on. -/
def Dig (w : World) (B : Nat) (v : Value) (n : Nat) (D : Nat → Int) : Prop :=
  (n = 0 ∧ v = .slice none 0 0) ∨
  ∃ (g cap : Nat) (cur : Array Value), (v = .slice (some ⟨g, 0, none⟩) n cap ∧ 0 < n) ∧ B ≤ g ∧ w.heap[g]? = some (.cells cur 2 (0, 0)) ∧ n ≤ cap ∧ cap ≤ maxLen ∧ cur.size = cap ∧ ∀ i, i < n → cur[i]? = some (.int .i64 (D i))

/-- An exactSum in memory. -/
structure ES (w : World) (S B : Nat) (sq : Bool) (v : Value) (b pd n : Nat) (D : Nat → Int) : Prop where
  blk : w.heap[S]? = some (.cells #[.bool sq, v, .int .i64 b, .int .i64 pd] 52 (0, 0))
  dig : Dig w B v n D
  sb : S < B
  bs : B ≤ w.heap.size

/-- Of the blocks that were there at most the sum's own and that of its old digits have turned. -/
structure Keeps (S : Nat) (v : Value) (w w' : World) : Prop where
  os : w'.os = w.os
  tape : w'.tape = w.tape
  output : w'.output = w.output
  size : w.heap.size ≤ w'.heap.size
  block : ∀ k, k < w.heap.size → k ≠ S → v.ownBlock ≠ some k → w'.heap[k]? = w.heap[k]?

/-- The digits lie where they lay, or in a new block. -/
def Fresh (w : World) (v v' : Value) : Prop := ∀ k, v'.ownBlock = some k → v.ownBlock = some k ∨ w.heap.size ≤ k

theorem Fresh.refl (w : World) (v : Value) : Fresh w v v := fun _ h => Or.inl h

theorem Keeps.refl (S : Nat) (v : Value) (w : World) : Keeps S v w w := ⟨rfl, rfl, rfl, Nat.le_refl _, fun _ _ _ _ => rfl⟩
theorem Keeps.trans {S : Nat} {v v1 : Value} {x y z : World} (h : Keeps S v x y) (hf : Fresh x v v1) (k : Keeps S v1 y z) : Keeps S v x z :=
  ⟨k.os.trans h.os, k.tape.trans h.tape, k.output.trans h.output, Nat.le_trans h.size k.size, fun i h1 h2 h3 => (k.block i (Nat.lt_of_lt_of_le h1 h.size) h2 (fun e => by
    rcases hf i e with h4 | h4
    · exact h3 h4
    · omega)).trans (h.block i h1 h2 h3)⟩
theorem Keeps.set {S : Nat} {v : Value} {x w : World} (h : Keeps S v x w) (j : Nat) (u : Value) : Keeps S v x (w.setCell ⟨S, j, none⟩ u) :=
  ⟨h.os, h.tape, h.output, by simpa [World.setCell] using h.size, fun k h1 h2 h3 => by rw [Below.heap_setCell _ _ _ _ (by show k ≠ S; exact h2)]; exact h.block k h1 h2 h3⟩
theorem Keeps.alloc {S : Nat} {v : Value} {x w : World} (h : Keeps S v x w) (o : Obj) : Keeps S v x (w.alloc o) :=
  ⟨h.os, h.tape, h.output, by have := h.size; simp; omega, fun k h1 h2 h3 => by rw [Below.heap_alloc _ _ _ (Nat.lt_of_lt_of_le h1 h.size)]; exact h.block k h1 h2 h3⟩
theorem Keeps.drew {S : Nat} {v : Value} {x w : World} (h : Keeps S v x w) : Keeps S v x w.drew := ⟨h.os, h.tape, h.output, h.size, h.block⟩
theorem Keeps.drewN {S : Nat} {v : Value} {x w : World} (h : Keeps S v x w) (q : Nat) : Keeps S v x (w.drewN q) := ⟨h.os, h.tape, h.output, h.size, h.block⟩

section
variable {w w' : World} {S B : Nat} {sq : Bool} {v : Value} {b pd n : Nat} {D : Nat → Int}

theorem ES.c0 (h : ES w S B sq v b pd n D) : w.cell? ⟨S, 0, none⟩ = some (.bool sq) := by simp [World.cell?, h.blk]
theorem ES.c1 (h : ES w S B sq v b pd n D) : w.cell? ⟨S, 1, none⟩ = some v := by simp [World.cell?, h.blk]
theorem ES.c2 (h : ES w S B sq v b pd n D) : w.cell? ⟨S, 2, none⟩ = some (.int .i64 b) := by simp [World.cell?, h.blk]
theorem ES.c3 (h : ES w S B sq v b pd n D) : w.cell? ⟨S, 3, none⟩ = some (.int .i64 pd) := by simp [World.cell?, h.blk]
theorem ES.fr (h : ES w S B sq v b pd n D) (j : Nat) : w.frozen? ⟨S, j, none⟩ = false := by simp [World.frozen?, h.blk]
theorem ES.lt (h : ES w S B sq v b pd n D) : S < w.heap.size := lt_of_block h.blk

theorem blk_set (a0 a1 a2 a3 u : Value) (j : Nat) (h : w.heap[S]? = some (.cells #[a0, a1, a2, a3] 52 (0, 0))) : (w.setCell ⟨S, j, none⟩ u).heap[S]? = some (.cells (#[a0, a1, a2, a3].setIfInBounds j u) 52 (0, 0)) := by
  simp [World.setCell, Array.getElem?_modify, h]

theorem Dig.set_other (h : Dig w B v n D) {a : Addr} (ha : a.block < B) (u : Value) : Dig (w.setCell a u) B v n D := by
  rcases h with h | ⟨g, cap, cur, h1, h2, h3, h4, h5, h6, h7⟩
  · exact .inl h
  · exact .inr ⟨g, cap, cur, h1, h2, by rw [Below.heap_setCell _ _ _ _ (by omega)]; exact h3, h4, h5, h6, h7⟩

theorem Dig.alloc (h : Dig w B v n D) (o : Obj) : Dig (w.alloc o) B v n D := by
  rcases h with h | ⟨g, cap, cur, h1, h2, h3, h4, h5, h6, h7⟩
  · exact .inl h
  · exact .inr ⟨g, cap, cur, h1, h2, by rw [Below.heap_alloc _ _ _ (lt_of_block h3)]; exact h3, h4, h5, h6, h7⟩

theorem Dig.drewN (h : Dig w B v n D) (q : Nat) : Dig (w.drewN q) B v n D := h
theorem Dig.congr {D' : Nat → Int} (h : Dig w B v n D) (e : ∀ i, i < n → D i = D' i) : Dig w B v n D' := by
  rcases h with h | ⟨g, cap, cur, h1, h2, h3, h4, h5, h6, h7⟩
  · exact .inl h
  · exact .inr ⟨g, cap, cur, h1, h2, h3, h4, h5, h6, fun i hi => by rw [← e i hi]; exact h7 i hi⟩

theorem Dig.own (h : Dig w B v n D) : w.ownsRow B 2 1 v n ((List.range n).map fun i => Value.int .i64 (D i)) := by
  refine ⟨by simp, ?_⟩
  rcases h with ⟨h1, h2⟩ | ⟨g, cap, cur, h1, h2, h3, h4, h5, h6, h7⟩
  · exact .inl ⟨h2, h1⟩
  · refine .inr ⟨g, cap, cur, h1.1, h2, h3, h4, h5, by omega, ?_⟩
    apply List.ext_getElem?
    intro i
    rw [List.getElem?_take]
    by_cases hi : i < n
    · rw [if_pos (by omega)]
      have := h7 i hi
      simp [hi]
      simpa using this
    · rw [if_neg (by omega)]
      simp [hi]

theorem dig_of_own {xs : List Value} (h : w.ownsRow B 2 1 v n xs) (hn : 0 < n) (hx : ∀ i, i < n → xs[i]? = some (.int .i64 (D i))) : Dig w B v n D := by
  rcases h.2 with ⟨h1, h2⟩ | ⟨g, cap, cur, h1, h2, h3, h4, h5, h6, h7⟩
  · omega
  · refine .inr ⟨g, cap, cur, ⟨h1, hn⟩, h2, h3, h4, h5, by omega, fun i hi => ?_⟩
    rw [← hx i hi, ← h7, List.getElem?_take, if_pos (by omega)]
    simp

end

/-- What cover leaves. -/
def CoverOk (w : World) (S B : Nat) (sq : Bool) (v : Value) (b pd n : Nat) (D : Nat → Int) (low high : Nat) (e : Ending) (w' : World) : Prop :=
  e = .returned (.tuple #[]) ∧ ∃ v' b' n' D', ES w' S B sq v' b' pd n' D' ∧ Lm.dv b' D' n' = Lm.dv b D n ∧ b' ≤ low ∧ high < b' + n' ∧ b' + n' ≤ 140 ∧
    (∀ M : Int, 0 ≤ M → (∀ i, i < n → -M ≤ D i ∧ D i ≤ M) → ∀ i, i < n' → -M ≤ D' i ∧ D' i ≤ M) ∧ Keeps S v w w' ∧ Fresh w v v'

theorem es_blk12 {w : World} {S B : Nat} {sq : Bool} {v : Value} {b pd n : Nat} {D : Nat → Int} (h : ES w S B sq v b pd n D) (b' : Nat) (v' : Value) :
    ((w.setCell ⟨S, 2, none⟩ (.int .i64 b')).setCell ⟨S, 1, none⟩ v').heap[S]? = some (.cells #[.bool sq, v', .int .i64 b', .int .i64 pd] 52 (0, 0)) := by
  have h1 := blk_set _ _ _ _ (Value.int .i64 b') 2 h.blk
  exact blk_set _ _ _ _ v' 1 h1

theorem cover_first_ok {w : World} {S B : Nat} {sq : Bool} {v : Value} {b pd : Nat} {D : Nat → Int} (h : ES w S B sq v b pd 0 D) (low high : Nat) (hlh : low ≤ high) (hh : high ≤ 139) :
    CoverOk w S B sq v b pd 0 D low high (.returned (.tuple #[])) (((w.setCell ⟨S, 2, none⟩ (.int .i64 low)).setCell ⟨S, 1, none⟩ (.slice (some ⟨w.heap.size, 0, none⟩) (high - low + 1) (high - low + 1))).alloc (.cells (madeCells #[.int .i64 0] (high - low + 1)) 2)).drew := by
  have hS := h.lt
  have hb := es_blk12 h low (.slice (some ⟨w.heap.size, 0, none⟩) (high - low + 1) (high - low + 1))
  have hB : Keeps S v w ((w.setCell ⟨S, 2, none⟩ (.int .i64 low)).setCell ⟨S, 1, none⟩ (.slice (some ⟨w.heap.size, 0, none⟩) (high - low + 1) (high - low + 1))) := ((Keeps.refl _ _ _).set 2 _).set 1 _
  have hsz : ((w.setCell ⟨S, 2, none⟩ (.int .i64 low)).setCell ⟨S, 1, none⟩ (.slice (some ⟨w.heap.size, 0, none⟩) (high - low + 1) (high - low + 1))).heap.size = w.heap.size := by simp
  generalize (w.setCell ⟨S, 2, none⟩ (.int .i64 low)).setCell ⟨S, 1, none⟩ (.slice (some ⟨w.heap.size, 0, none⟩) (high - low + 1) (high - low + 1)) = X at *
  refine ⟨rfl, .slice (some ⟨w.heap.size, 0, none⟩) (high - low + 1) (high - low + 1), low, high - low + 1, fun _ => 0, ⟨?_, .inr ⟨w.heap.size, high - low + 1, madeCells #[.int .i64 0] (high - low + 1), ⟨rfl, by omega⟩, h.bs, ?_, Nat.le_refl _, by simp only [maxLen]; omega, size_madeCells _ _, fun i hi => by simp [madeCells, hi, Nat.mod_one]⟩, h.sb, by have := h.bs; show B ≤ (X.alloc _).heap.size; simp; omega⟩, ?_, Nat.le_refl _, by omega, by omega, fun M hM _ i _ => ⟨by show -M ≤ 0; omega, hM⟩, (hB.alloc _).drew, fun k hk => Or.inr (by simp [Value.ownBlock] at hk; omega)⟩
  · show (X.alloc _).heap[S]? = _
    rw [Below.heap_alloc _ _ _ (by omega)]
    exact hb
  · show (X.alloc _).heap[w.heap.size]? = _
    rw [← hsz]
    exact heap_alloc_new _ _
  · rw [Lm.dv_nought (fun _ _ => rfl)]
    rfl

set_option maxHeartbeats 1000000 in
set_option maxRecDepth 100000 in
theorem cover_first (S B : Nat) (sq : Bool) (v : Value) (b pd : Nat) (D : Nat → Int) (low high : Nat) (w : World) (h : ES w S B sq v b pd 0 D) (hlh : low ≤ high) (hh : high ≤ 139) :
    Calls Try.prog 37 #[.pointer (some ⟨S, 0, none⟩), .int .i64 low, .int .i64 high] w (CoverOk w S B sq v b pd 0 D low high) := by
  have hv : v = .slice none 0 0 := by
    rcases h.dig with ⟨_, h2⟩ | ⟨g, cap, cur, h1, h2, h3, h4, h5, h6, h7⟩
    · exact h2
    · omega
  subst hv
  have c1 := h.c1
  have c2 := h.c2
  have f1 := h.fr 1
  have f2 := h.fr 2
  have hS := h.lt
  have hmk : ∀ w, (Instr.makeSlice 22 (.int .i64 ((high : Int) - (low : Int) + 1)) (.int .i64 ((high : Int) - (low : Int) + 1))).run Try.prog w = .ok (.slice (some ⟨w.heap.size, 0, none⟩) (high - low + 1) (high - low + 1)) (w.alloc (.cells (madeCells #[.int .i64 0] (high - low + 1)) 2)) := fun w => by
    have := run_make_row' (P := Try.prog) 22 2 (.int .i64 0) 8 Try.underlying22 Try.info2 rfl .i64 .i64 (high - low + 1) (by omega) (by omega) w
    rw [show ((high - low + 1 : Nat) : Int) = (high : Int) - (low : Int) + 1 from by omega] at this
    exact this
  go_enter Try.func37, Try.ntmps37
  go_wp2
  go_region
  all_goals go_wp2
  all_goals go_end0
  all_goals exact cover_first_ok h low high hlh hh

/-- Behind the first 'if' of cover: the base is low enough. -/
def Mid (w : World) (S B : Nat) (sq : Bool) (v : Value) (b pd n : Nat) (D : Nat → Int) (low : Nat) (wx : World) : Prop :=
  ∃ v' b' n' D', ES wx S B sq v' b' pd n' D' ∧ 0 < n' ∧ Lm.dv b' D' n' = Lm.dv b D n ∧ b' ≤ low ∧ b' + n' ≤ 140 ∧
    (∀ M : Int, 0 ≤ M → (∀ i, i < n → -M ≤ D i ∧ D i ≤ M) → ∀ i, i < n' → -M ≤ D' i ∧ D' i ≤ M) ∧ Keeps S v w wx ∧ Fresh w v v'

theorem zeros_dig {w : World} {B : Nat} {v : Value} {n m : Nat} {D : Nat → Int} (h : w.ownsRow B 2 1 v (n + m) (((List.range n).map fun i => Value.int .i64 (D i)) ++ List.replicate m (Value.int .i64 0))) (hn : 0 < n + m) :
    Dig w B v (n + m) (fun i => if i < n then D i else 0) := by
  refine dig_of_own h hn (fun i hi => ?_)
  by_cases h1 : i < n
  · rw [List.getElem?_append_left (by simpa using h1), if_pos h1]
    simp [h1]
  · rw [List.getElem?_append_right (by simpa using h1), if_neg h1, List.getElem?_replicate, if_pos (by simp; omega)]

theorem dig_shape {w : World} {B : Nat} {v : Value} {n : Nat} {D : Nat → Int} (h : Dig w B v n D) (hn : 0 < n) : ∃ g cap, v = .slice (some ⟨g, 0, none⟩) n cap := by
  rcases h with ⟨h1, _⟩ | ⟨g', cap', cur', h1, _⟩
  · omega
  · exact ⟨g', cap', h1.1⟩

theorem keeps_grown {wc w2 : World} {nq S : Nat} {v : Value} (hgrow : (wc.drewN nq).grownBy w2 v.ownBlock) : Keeps S v wc w2 :=
  ⟨hgrow.os, hgrow.tape, hgrow.output, hgrow.size, fun k h1 _ h3 => hgrow.block k h1 (fun e => h3 e.symm)⟩

theorem cover_zeros_ok {w w2 : World} {S B : Nat} {sq : Bool} {b pd n : Nat} {D D' : Nat → Int} {low high b' n' m : Nat} {v v0 v2 : Value} (hsb : S < B) (hbs : B ≤ w2.heap.size) (hblk : w2.heap[S]? = some (.cells #[.bool sq, v0, .int .i64 b', .int .i64 pd] 52 (0, 0)))
    (hD : Dig w2 B v2 (n' + m) (fun i => if i < n' then D' i else 0)) (hdv : Lm.dv b' D' n' = Lm.dv b D n) (hb' : b' ≤ low) (hh : high < b' + (n' + m)) (hl : b' + (n' + m) ≤ 140)
    (hM : ∀ M : Int, 0 ≤ M → (∀ i, i < n → -M ≤ D i ∧ D i ≤ M) → ∀ i, i < n' → -M ≤ D' i ∧ D' i ≤ M) (hB : Keeps S v w w2) (hF : Fresh w v v2) :
    CoverOk w S B sq v b pd n D low high (.returned (.tuple #[])) (w2.setCell ⟨S, 1, none⟩ v2) := by
  refine ⟨rfl, v2, b', n' + m, _, ⟨blk_set _ _ _ _ v2 1 hblk, hD.set_other (by show S < B; exact hsb) _, hsb, by simpa [World.setCell] using hbs⟩, ?_, hb', hh, hl, fun M h0 h1 i hi => ?_, hB.set 1 _, hF⟩
  · rw [Lm.dv_zeros m (fun i h1 h2 => if_neg (by omega)), ← hdv]
    exact Lm.dv_congr (fun i hi => if_pos hi)
  · show -M ≤ (if i < n' then D' i else 0) ∧ (if i < n' then D' i else 0) ≤ M
    split
    · rename_i h2; exact hM M h0 h1 i h2
    · omega

/-- The row behind the copy: zeros, the old digits, zeros. -/
def shifted (s n C : Nat) (D : Nat → Int) : Array Value := ((madeCells #[Value.int .i64 0] C).toList.take s ++ (((List.range n).map fun i => Value.int .i64 (D i)) ++ (madeCells #[Value.int .i64 0] C).toList.drop (s + n))).toArray

theorem shifted_size (s n C : Nat) (D : Nat → Int) (h : s + n ≤ C) : (shifted s n C D).size = C := by
  unfold shifted
  simp [size_madeCells]
  omega

theorem shifted_at (s n C : Nat) (D : Nat → Int) (h : s + n ≤ C) (i : Nat) (hi : i < s + n) : (shifted s n C D)[i]? = some (.int .i64 (if i < s then 0 else D (i - s))) := by
  unfold shifted
  rw [List.getElem?_toArray]
  have hl : ((madeCells #[Value.int .i64 0] C).toList.take s).length = s := by simp [size_madeCells]; omega
  by_cases h1 : i < s
  · rw [List.getElem?_append_left (by omega), List.getElem?_take, if_pos h1, if_pos h1]
    have : i < C := by omega
    simp [madeCells, this, Nat.mod_one]
  · rw [List.getElem?_append_right (by omega), hl, List.getElem?_append_left (by simp; omega), if_neg h1]
    have : i - s < n := by omega
    simp [this]

/-- What is known of the world behind 'copy'. -/
structure Copied (w : World) (S : Nat) (v0 : Value) (sq : Bool) (v : Value) (b pd n : Nat) (s C : Nat) (D : Nat → Int) (X : World) : Prop where
  blk : X.heap[S]? = some (.cells #[.bool sq, v, .int .i64 b, .int .i64 pd] 52 (0, 0))
  row : X.heap[w.heap.size]? = some (.cells (shifted s n C D) 2 (0, 0))
  keeps : Keeps S v0 w X

theorem copied_mk {w : World} {S B : Nat} {sq : Bool} {v : Value} {b pd n s C : Nat} {D : Nat → Int} (h : ES w S B sq v b pd n D) :
    Copied w S v sq v b pd n s C D ((w.alloc (.cells (madeCells #[.int .i64 0] C) 2)).drew.setRow w.heap.size (shifted s n C D)) := by
  have hS := h.lt
  refine ⟨?_, ?_, ?_⟩
  · rw [setRow_other _ _ _ _ (by omega)]
    show (w.alloc _).heap[S]? = _
    rw [Below.heap_alloc _ _ _ hS]
    exact h.blk
  · exact setRow_heap _ _ (madeCells #[.int .i64 0] C) _ 2 (0, 0) (heap_alloc_new w _)
  · have := (Keeps.refl S v w).alloc (.cells (madeCells #[.int .i64 0] C) 2)
    exact ⟨this.os, this.tape, this.output, by simp [World.setRow], fun k h1 h2 h3 => by rw [setRow_other _ _ _ _ (by omega)]; exact this.block k h1 h2 h3⟩

theorem mid_ok {w X : World} {S B : Nat} {sq : Bool} {v : Value} {b pd n : Nat} {D : Nat → Int} {low C : Nat} (h : Copied w S v sq v b pd n (b - low) C D X) (hS : S < w.heap.size) (hsb : S < B) (hbs : B ≤ w.heap.size) (hlb : low < b) (hn : 0 < n) (hC : b + n - low ≤ C) (hC2 : C ≤ 140) (hbn : b + n ≤ 140) :
    Mid w S B sq v b pd n D low ((X.setCell ⟨S, 2, none⟩ (.int .i64 low)).setCell ⟨S, 1, none⟩ (.slice (some ⟨w.heap.size, 0, none⟩) (b + n - low) C)) := by
  refine ⟨.slice (some ⟨w.heap.size, 0, none⟩) (b + n - low) C, low, b + n - low, fun i => if i < b - low then 0 else D (i - (b - low)), ⟨blk_set _ _ _ _ _ 1 (blk_set _ _ _ _ _ 2 h.blk), .inr ⟨w.heap.size, C, shifted (b - low) n C D, ⟨rfl, by omega⟩, hbs, ?_, hC, by simp only [maxLen]; omega, shifted_size _ _ _ _ (by omega), fun i hi => shifted_at _ _ _ _ (by omega) i (by omega)⟩, hsb, by have := h.keeps.size; simp [World.setCell]; omega⟩, by omega, ?_, Nat.le_refl _, by omega, fun M h0 h1 i hi => ?_, (h.keeps.set 2 _).set 1 _, fun k hk => Or.inr (by simp [Value.ownBlock] at hk; omega)⟩
  · rw [Below.heap_setCell _ _ _ _ (by show w.heap.size ≠ S; omega), Below.heap_setCell _ _ _ _ (by show w.heap.size ≠ S; omega)]
    exact h.row
  · rw [show b + n - low = (b - low) + n from by omega, Lm.dv_shift low (b - low) n D _ (fun i hi => if_pos hi) (fun i _ => by
      show (if b - low + i < b - low then 0 else D (b - low + i - (b - low))) = D i
      rw [if_neg (by omega), show b - low + i - (b - low) = i from by omega]), show low + (b - low) = b from by omega]
  · show -M ≤ (if i < b - low then 0 else D (i - (b - low))) ∧ (if i < b - low then 0 else D (i - (b - low))) ≤ M
    split
    · omega
    · exact h1 _ (by omega)

theorem mid_trans {w wx : World} {S B nq : Nat} {sq : Bool} {v : Value} {b pd n : Nat} {D : Nat → Int} {low : Nat} {w1 : World} (hw : w1 = w.drewN nq) (h : Mid w1 S B sq v b pd n D low wx) : Mid w S B sq v b pd n D low wx := by
  subst hw
  obtain ⟨v', b', n', D', h1, h2, h3, h4, h5, h6, h7, h8⟩ := h
  exact ⟨v', b', n', D', h1, h2, h3, h4, h5, h6, ⟨h7.os, h7.tape, h7.output, h7.size, h7.block⟩, h8⟩

theorem run_make_cap (L C : Nat) (LX CX : Int) (hL : LX = (L : Int)) (hC : CX = (C : Int)) (h : L ≤ C) (hC2 : C ≤ 1000) (w : World) :
    (Instr.makeSlice 22 (.int .i64 LX) (.int .i64 CX)).run Try.prog w = .ok (.slice (some ⟨w.heap.size, 0, none⟩) L C) (w.alloc (.cells (madeCells #[.int .i64 0] C) 2)) := by
  subst hL hC
  obtain ⟨i2, hi, hz0, hz1, hz2⟩ := info_parts Try.info2
  have hr := run_make (P := Try.prog) w 22 2 i2 (.int .i64 0) Try.underlying22 hi hz0 .i64 .i64 L C (by omega) (by omega) (by rw [hz2]; omega) (by omega)
  simp only [Int.toNat_natCast, hz1, Nat.mul_one] at hr
  exact hr

theorem run_copy_digits {w : World} {g : Nat} {cur : Array Value} {n cap : Nat} {D : Nat → Int} (hgb : w.heap[g]? = some (.cells cur 2 (0, 0))) (hD : ∀ i, i < n → cur[i]? = some (.int .i64 (D i))) (s C dL dCap : Nat) (hdL : dL = n) (hsC : s + n ≤ C) (ty : TypeId) :
    (Builtin.copy_ #[22, 22] ty #[.slice (some ⟨w.heap.size, s, none⟩) dL dCap, .slice (some ⟨g, 0, none⟩) n cap]).run Try.prog (w.alloc (.cells (madeCells #[.int .i64 0] C) 2)).drew =
      .ok (goInt n) ((w.alloc (.cells (madeCells #[.int .i64 0] C) 2)).drew.setRow w.heap.size (shifted s n C D)) := by
  subst hdL
  have hgs := lt_of_block hgb
  have hr := run_copy_row (P := Try.prog) (w.alloc (.cells (madeCells #[.int .i64 0] C) 2)).drew 22 22 ty 2 w.heap.size s dL dCap ⟨g, 0, none⟩ dL cap (madeCells #[.int .i64 0] C) 2 ((List.range dL).map fun i => Value.int .i64 (D i)) Try.underlying22 (by kernel_rfl)
    (heap_alloc_new w _) (by simp) (fun j v hj => by
      have hjn : j < dL := by
        rcases Nat.lt_or_ge j dL with h | h
        · exact h
        · rw [List.getElem?_eq_none (by simpa using h)] at hj; cases hj
      have e : v = .int .i64 (D j) := by simp [hjn] at hj; exact hj.symm
      rw [e, Addr.add_lit, Nat.zero_add]
      show (w.alloc _).cell? ⟨g, j, none⟩ = _
      rw [((Below.refl w.heap.size w).alloc (Nat.le_refl _) _).cell (p := ⟨g, j, none⟩) hgs]
      simp [World.cell?, hgb, hD j hjn]) (by simp [size_madeCells]; omega) (fun v hv => by obtain ⟨i, _, rfl⟩ := List.mem_map.1 hv; rfl)
  simp only [List.length_map, List.length_range, List.append_assoc] at hr
  exact hr

set_option maxHeartbeats 1000000 in
set_option maxRecDepth 100000 in
theorem cover37 (S B : Nat) (sq : Bool) (v : Value) (b pd n : Nat) (D : Nat → Int) (low high : Nat) (w : World) (h : ES w S B sq v b pd n D) (hn : 0 < n) (hbn : b + n ≤ 140) (hlh : low ≤ high) (hh : high ≤ 139) :
    Calls Try.prog 37 #[.pointer (some ⟨S, 0, none⟩), .int .i64 low, .int .i64 high] w (CoverOk w S B sq v b pd n D low high) := by
  obtain ⟨g, cap, cur, hv, hn0, hg, hgb, hnc, hcm, hcs, hD⟩ : ∃ (g cap : Nat) (cur : Array Value), v = .slice (some ⟨g, 0, none⟩) n cap ∧ 0 < n ∧ B ≤ g ∧ w.heap[g]? = some (.cells cur 2 (0, 0)) ∧ n ≤ cap ∧ cap ≤ maxLen ∧ cur.size = cap ∧ ∀ i, i < n → cur[i]? = some (.int .i64 (D i)) := by
    rcases h.dig with ⟨h1, _⟩ | ⟨g, cap, cur, h1, h2, h3, h4, h5, h6, h7⟩
    · omega
    · exact ⟨g, cap, cur, h1.1, h1.2, h2, h3, h4, h5, h6, h7⟩
  subst hv
  have c1 := h.c1
  have c2 := h.c2
  have f1 := h.fr 1
  have f2 := h.fr 2
  have hS := h.lt
  have hgs := lt_of_block hgb
  have en : ((n : Int) == 0) = false := by simp; omega
  go_enter Try.func37, Try.ntmps37
  go_upto_if 32 with (fail)
  go_cut [] from 9 (fun wx => Mid w S B sq (.slice (some ⟨g, 0, none⟩) n cap) b pd n D low wx)
  case first =>
    by_cases hlb : low < b
    · by_cases hmx : b + n < high + 1
      · have hmk := run_make_cap (b + n - low) (high + 1 - low) ((b : Int) + (n : Int) - (low : Int)) ((high : Int) + 1 - (low : Int)) (by omega) (by omega) (by omega) (by omega)
        go_wp2
        go_quiet (fail)
        have hE1 : ES (w.drewN nq) S B sq (.slice (some ⟨g, 0, none⟩) n cap) b pd n D := ⟨h.blk, h.dig, h.sb, h.bs⟩
        have hgb1 : (w.drewN nq).heap[g]? = some (.cells cur 2 (0, 0)) := hgb
        generalize hw1 : w.drewN nq = w1 at hE1 hgb1 ⊢
        have HW1 : Hid (w.drewN nq = w1) := hw1
        clear hw1
        clear c1 c2 f1 f2 hS hgs
        have c1 := hE1.c1
        have c2 := hE1.c2
        have f1 := hE1.fr 1
        have f2 := hE1.fr 2
        have hS := hE1.lt
        have hcp := run_copy_digits (cap := cap) hgb1 hD (b - low) (high + 1 - low) (b + n - low - (b - low)) (high + 1 - low - (b - low)) (by omega) (by omega) 3
        go_wp2
        go_region
        all_goals
          have hX := copied_mk (s := b - low) (C := high + 1 - low) hE1
          generalize (w1.alloc (.cells (madeCells #[.int .i64 0] (high + 1 - low)) 2)).drew.setRow w1.heap.size (shifted (b - low) n (high + 1 - low) D) = X at hX ⊢
          clear c1 c2 f1 f2 hcp
          have c1 : X.cell? ⟨S, 1, none⟩ = some (.slice (some ⟨g, 0, none⟩) n cap) := by simp [World.cell?, hX.blk]
          have c2 : X.cell? ⟨S, 2, none⟩ = some (.int .i64 b) := by simp [World.cell?, hX.blk]
          have f1 : X.frozen? ⟨S, 1, none⟩ = false := by simp [World.frozen?, hX.blk]
          have f2 : X.frozen? ⟨S, 2, none⟩ = false := by simp [World.frozen?, hX.blk]
          go_wp2
          go_meet
          case rel => exact mid_trans HW1.out.symm (mid_ok hX hS hE1.sb hE1.bs hlb hn (by omega) (by omega) hbn)
      · have hmk := run_make_cap (b + n - low) (b + n - low) ((b : Int) + (n : Int) - (low : Int)) ((b : Int) + (n : Int) - (low : Int)) (by omega) (by omega) (by omega) (by omega)
        go_wp2
        go_quiet (fail)
        have hE1 : ES (w.drewN nq) S B sq (.slice (some ⟨g, 0, none⟩) n cap) b pd n D := ⟨h.blk, h.dig, h.sb, h.bs⟩
        have hgb1 : (w.drewN nq).heap[g]? = some (.cells cur 2 (0, 0)) := hgb
        generalize hw1 : w.drewN nq = w1 at hE1 hgb1 ⊢
        have HW1 : Hid (w.drewN nq = w1) := hw1
        clear hw1
        clear c1 c2 f1 f2 hS hgs
        have c1 := hE1.c1
        have c2 := hE1.c2
        have f1 := hE1.fr 1
        have f2 := hE1.fr 2
        have hS := hE1.lt
        have hcp := run_copy_digits (cap := cap) hgb1 hD (b - low) (b + n - low) (b + n - low - (b - low)) (b + n - low - (b - low)) (by omega) (by omega) 3
        go_wp2
        go_region
        all_goals
          have hX := copied_mk (s := b - low) (C := b + n - low) hE1
          generalize (w1.alloc (.cells (madeCells #[.int .i64 0] (b + n - low)) 2)).drew.setRow w1.heap.size (shifted (b - low) n (b + n - low) D) = X at hX ⊢
          clear c1 c2 f1 f2 hcp
          have c1 : X.cell? ⟨S, 1, none⟩ = some (.slice (some ⟨g, 0, none⟩) n cap) := by simp [World.cell?, hX.blk]
          have c2 : X.cell? ⟨S, 2, none⟩ = some (.int .i64 b) := by simp [World.cell?, hX.blk]
          have f1 : X.frozen? ⟨S, 1, none⟩ = false := by simp [World.frozen?, hX.blk]
          have f2 : X.frozen? ⟨S, 2, none⟩ = false := by simp [World.frozen?, hX.blk]
          go_wp2
          go_meet
          case rel => exact mid_trans HW1.out.symm (mid_ok hX hS hE1.sb hE1.bs hlb hn (by omega) (by omega) hbn)
    · go_wp2
      go_meet
      case rel => exact ⟨_, b, n, D, h, hn, rfl, by omega, hbn, fun _ _ hM => hM, Keeps.refl _ _ _, Fresh.refl _ _⟩
  case rest =>
    obtain ⟨v', b', n', D', hE, hn', hdv, hb', hbn', hM', hB', hF'⟩ := hcut
    clear c1 c2 f1 f2 en
    have c1 := hE.c1
    have c2 := hE.c2
    have f1 := hE.fr 1
    have hS' := hE.lt
    have hvx : ∃ g' cap', v' = .slice (some ⟨g', 0, none⟩) n' cap' ∧ B ≤ g' := by
      rcases hE.dig with ⟨h1, _⟩ | ⟨g', cap', cur', h1, h2, h3, h4, h5, h6, h7⟩
      · omega
      · exact ⟨g', cap', h1.1, h2⟩
    obtain ⟨g', cap', rfl, hg'⟩ := hvx
    go_wp2
    go_quiet (fail)
    by_cases htop : high < b' + n'
    · go_wp2
      go_end0
      exact ⟨rfl, _, b', n', D', ⟨hE.blk, hE.dig, hE.sb, hE.bs⟩, hdv, hb', htop, hbn', hM', hB'.drewN _, hF'⟩
    · obtain ⟨i2, hi, hz0, hz1, hz2⟩ := info_parts Try.info2
      have hown : (wc.drewN nq).ownsRow B 2 1 (.slice (some ⟨g', 0, none⟩) n' cap') n' ((List.range n').map fun i => Value.int .i64 (D' i)) := hE.dig.own
      go_wp2_with (at_builtin; refine wpList_zeros_own _ rfl _ _ 22 3 rfl B 2 i2 Try.underlying22 Try.underlying3 hi hz0 hz1 hz2 _ _ _ rfl hown hn' (by omega) (high + 1 - (b' + n')) _ rfl ?cM ?cm0 ?cm ?cb ?_)
      case cM => omega
      case cm0 => omega
      case cm => omega
      case cb => exact hE.bs
      intro v2 w2 hown2 hgrow hfr2
      have hblk2 : w2.heap[S]? = some (.cells #[.bool sq, .slice (some ⟨g', 0, none⟩) n' cap', .int .i64 b', .int .i64 pd] 52 (0, 0)) := (hgrow.block S hS' (by have := hE.sb; simp [Value.ownBlock]; omega)).trans hE.blk
      have hD2 := zeros_dig (D := D') hown2 (by omega)
      have hB2 := hB'.trans hF' (keeps_grown (S := S) hgrow)
      have hbs2 : B ≤ w2.heap.size := Nat.le_trans hE.bs hgrow.size
      have hF2 : Fresh w (.slice (some ⟨g, 0, none⟩) n cap) v2 := fun k hk => by
        rcases hfr2 k hk with h1 | h1
        · exact hF' k h1
        · exact Or.inr (Nat.le_trans hB'.size h1)
      clear hfr2
      have hex := dig_shape hD2 (by omega)
      obtain ⟨g2, cap2, hv2⟩ := hex
      rw [hv2] at hD2 hF2 ⊢
      have c12 : w2.cell? ⟨S, 1, none⟩ = some (.slice (some ⟨g', 0, none⟩) n' cap') := by simp [World.cell?, hblk2]
      have f12 : w2.frozen? ⟨S, 1, none⟩ = false := by simp [World.frozen?, hblk2]
      have HB2 : Hid (w2.heap[S]? = some (.cells #[.bool sq, .slice (some ⟨g', 0, none⟩) n' cap', .int .i64 b', .int .i64 pd] 52 (0, 0))) := hblk2
      have HV : Hid (v2 = .slice (some ⟨g2, 0, none⟩) (n' + (high + 1 - (b' + n'))) cap2) := hv2
      clear hblk2 hown2 hgrow hown c1 c2 f1 hv2
      go_wp2
      go_end0
      exact cover_zeros_ok hE.sb hbs2 HB2.out hD2 hdv hb' (by omega) (by omega) hM' hB2 hF2

end Go.Proofs.Qxb6614701a
