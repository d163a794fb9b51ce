import Derived.Test.Qxb6614701aVwa
import Derived.Laws.AppendOwn
namespace Go.Proofs.Qxb6614701a
open Go.RowKit

theorem Try.info33 : (Try.prog.info? 33).map (fun i => (i.zero, i.size, i.bytes)) = some (some (.pointer none), 1, 8) := by kernel_rfl

def MadeView (w wx : World) (c : Int) (fi Vn : Nat) : Prop := w.heap.size ≤ Vn ∧ View wx Vn c fi (.pointer none) (.pointer none) ∧ Below w.heap.size w wx

def ViewNew (w : World) (W : Nat) (tv vv : Value) (st n pu base m : Nat) (vs : Value) (xs : List Value) (c : Int) (fi : Nat) (e : Ending) (w' : World) : Prop :=
  ∃ Vn vs', e = .returned (.pointer (some ⟨Vn, 0, none⟩)) ∧ w.heap.size ≤ Vn ∧ View w' Vn c fi (.pointer none) (.pointer none) ∧ Win w' W tv vv st n pu vs' ∧ w'.ownsRow base 33 1 vs' (m + 1) (xs ++ [.pointer (some ⟨Vn, 0, none⟩)]) ∧ Keeps W vs w w'

def boxed (w : World) (c : Int) : World := w.alloc (.cells #[.int .i64 c, .int .i64 0] 45)

def Tail2 (w : World) (W pu : Nat) (c : Int) (k : Nat) (e : Ending) (w2 : World) : Prop :=
  e = .returned (.int .i64 k) ∧ w2.cell? ⟨W, 6, none⟩ = some (.int .i64 pu) ∧ w2.cell? ⟨w.heap.size, 0, none⟩ = some (.int .i64 c) ∧ w2.cell? ⟨w.heap.size, 1, none⟩ = some (.int .i64 0) ∧ w.heap.size < w2.heap.size ∧ Below w.heap.size w w2

theorem tail2 {w w1 : World} {W : Nat} {tv vv : Value} {st n pu : Nat} {vs : Value} {c : Int} (h : Win w W tv vv st n pu vs) (e1 : w1.heap = (boxed w c).heap) (e2 : w1.os = w.os) (e3 : w1.tape = w.tape) (e4 : w1.output = w.output) :
    Calls Try.prog 22 #[.pointer (some ⟨W, 0, none⟩), .agg #[.int .i64 c, .int .i64 0]] w1 (Tail2 w W pu c (tailOf c n)) := by
  have hW := h.lt
  have hWb : w1.heap[W]? = w.heap[W]? := by rw [e1]; exact Below.heap_alloc _ _ _ hW
  have hN : w1.heap[w.heap.size]? = some (.cells #[.int .i64 c, .int .i64 0] 45 (0, 0)) := by rw [e1]; exact heap_alloc_new _ _
  have hs : w1.heap.size = w.heap.size + 1 := by rw [e1]; simp [boxed]
  refine (tailLen22 W tv vv st n pu vs c w1 (h.of_block hWb)).mono ?_
  rintro e w2 ⟨rfl, hB⟩
  have h1 : Below w.heap.size w w1 := by
    have := (Below.refl w.heap.size w).alloc (Nat.le_refl _) (.cells #[.int .i64 c, .int .i64 0] 45)
    exact ⟨e2, e3, e4, by omega, fun k hk => by rw [e1]; exact Below.heap_alloc _ _ _ hk⟩
  refine ⟨rfl, ?_, ?_, ?_, by have := hB.size; omega, h1.trans (hB.mono (by omega))⟩
  · rw [hB.cell (p := ⟨W, 6, none⟩) (by show W < w1.heap.size; omega)]
    exact (h.of_block hWb).cP
  · rw [hB.cell (p := ⟨w.heap.size, 0, none⟩) (by show w.heap.size < w1.heap.size; omega)]
    simp [World.cell?, hN]
  · rw [hB.cell (p := ⟨w.heap.size, 1, none⟩) (by show w.heap.size < w1.heap.size; omega)]
    simp [World.cell?, hN]

theorem own_of_block {w w' : World} {base : Nat} {e : TypeId} {size : Nat} {v : Value} {n : Nat} {xs : List Value} (h : w.ownsRow base e size v n xs) (hb : ∀ k, v.ownBlock = some k → w'.heap[k]? = w.heap[k]?) : w'.ownsRow base e size v n xs := by
  refine ⟨h.1, ?_⟩
  rcases h.2 with hn | ⟨g, cap, cur, rfl, h1, h2, h3⟩
  · exact .inl hn
  · exact .inr ⟨g, cap, cur, rfl, h1, (hb g rfl).trans h2, h3⟩

theorem made_view {w w2 : World} {c : Int} {fi : Nat} {f : Int} (hB : Below w.heap.size w w2) (hf : (fi : Int) = f) :
    MadeView w (w2.alloc (.cells #[.int .i64 c, .int .i64 0, .int .i64 f, .pointer none, .pointer none, .pointer none, .pointer none, .pointer none] 58)) c fi w2.heap.size := by
  subst hf
  exact ⟨hB.size, heap_alloc_new _ _, hB.alloc hB.size _⟩

theorem viewnew_ok {w wc w1 : World} {W : Nat} {tv vv : Value} {st n pu : Nat} {vs : Value} {base m : Nat} {xs : List Value} {c : Int} {fi Vn : Nat} {v' : Value} {o : Obj} (h : Win w W tv vv st n pu vs) (hM : MadeView w wc c fi Vn)
    (hown : w.ownsRow base 33 1 vs m xs) (hWb : W < base) (hg : (wc.alloc o).grownBy w1 vs.ownBlock) (ho : w1.ownsRow base 33 1 v' (m + 1) (xs ++ [.pointer (some ⟨Vn, 0, none⟩)])) :
    ViewNew w W tv vv st n pu base m vs xs c fi (.returned (.pointer (some ⟨Vn, 0, none⟩))) (w1.setCell ⟨W, 7, none⟩ v') := by
  obtain ⟨hV, hView, hB⟩ := hM
  have hW := h.lt
  have hVl := hView.lt
  have hsz : (wc.alloc o).heap.size = wc.heap.size + 1 := by simp
  have hW1 : w1.heap[W]? = w.heap[W]? := by
    rw [hg.block W (by have := hB.size; omega) (fun e => by have := hown.lt W e.symm; omega), Below.heap_alloc _ _ _ (by have := hB.size; omega), hB.block W hW]
  have hV1 : w1.heap[Vn]? = wc.heap[Vn]? := by
    rw [hg.block Vn (by omega) (fun e => by have := hown.lt Vn e.symm; omega), Below.heap_alloc _ _ _ hVl]
  refine ⟨Vn, v', rfl, hV, hView.of_block ?_, ?_, own_of_block ho (fun k hk => ?_), ⟨?_, ?_, ?_, ?_, fun k h1 h2 h3 => ?_⟩⟩
  · rw [Below.heap_setCell _ _ _ _ (by show Vn ≠ W; omega)]; exact hV1
  · show _ = _
    have := hW1.trans h
    simp [World.setCell, Array.getElem?_modify, this, winCells]
  · rw [Below.heap_setCell _ _ _ _ (by show k ≠ W; have := ho.lt k hk; omega)]
  · exact hg.os.trans hB.os
  · exact hg.tape.trans hB.tape
  · exact hg.output.trans hB.output
  · have := hg.size; have := hB.size; simp [World.setCell]; omega
  · rw [Below.heap_setCell _ _ _ _ (by show k ≠ W; exact h2), hg.block k (by have := hB.size; omega) (fun e => h3 e.symm), Below.heap_alloc _ _ _ (by have := hB.size; omega), hB.block k h1]

theorem own_shape {w : World} {base : Nat} {e : TypeId} {v : Value} {n : Nat} {xs : List Value} (h : w.ownsRow base e 1 v n xs) (hn : 0 < n) : ∃ g cap, v = .slice (some ⟨g, 0, none⟩) n cap := by
  rcases h.2 with ⟨_, h2⟩ | ⟨g, cap, cur, h1, _⟩
  · omega
  · exact ⟨g, cap, h1⟩

set_option maxHeartbeats 1000000 in
set_option maxRecDepth 100000 in
theorem view18_new (W : Nat) (tv vv : Value) (st n pu : Nat) (avs : Option Addr) (m cvs base g V1 : Nat) (xs : List Value) (c c1 : Int) (fi : Nat) (w : World) (h : Win w W tv vv st n pu (.slice avs m cvs))
    (hpm : pu < 9223372036854775808) (hfi : fi + tailOf c n = pu) (hown : w.ownsRow base 33 1 (.slice avs m cvs) m xs) (hm : m ≤ 1) (hb : base ≤ w.heap.size) (hWb : W < base)
    (h1 : m = 1 → avs = some ⟨g, 0, none⟩ ∧ w.cell? ⟨g, 0, none⟩ = some (.pointer (some ⟨V1, 0, none⟩)) ∧ w.cell? ⟨V1, 0, none⟩ = some (.int .i64 c1) ∧ w.cell? ⟨V1, 1, none⟩ = some (.int .i64 0) ∧ c1 ≠ c) :
    Calls Try.prog 18 #[.pointer (some ⟨W, 0, none⟩), .agg #[.int .i64 c, .int .i64 0]] w (ViewNew w W tv vv st n pu base m (.slice avs m cvs) xs c fi) := by
  have c6 := h.cP
  have c7 := h.cW
  have hW := h.lt
  have HFI : Hid (fi + tailOf c n = pu) := hfi
  clear hfi
  go_enter Try.func18, Try.ntmps18
  go_wp2
  go_loopw [13] (fun si wr => ∃ k q : Nat, k ≤ m ∧ si = .int .i64 k ∧ wr = (w.alloc (.cells #[.int .i64 c, .int .i64 0] 45)).drewN q) (fun si _ => m - (intOf si).toNat)
  case atStart => exact ⟨0, 0, Nat.zero_le _, rfl, rfl⟩
  case round =>
    obtain ⟨k, q, hk, rfl, rfl⟩ := hrel
    by_cases hlt : k < m
    · obtain rfl : k = 0 := by omega
      obtain ⟨rfl, cg, cv0, cv1, hne⟩ := h1 (by omega)
      have hgs := World.block_lt_of_cell? _ _ cg
      have hvs := World.block_lt_of_cell? _ _ cv0
      have hne' : (c1 == c) = false := by simpa using hne
      clear h1 hne
      go_wp2
      go_quiet (fail)
      go_wp2
      go_roundw
      case rel => exact ⟨1, _, by omega, by go_num, rfl⟩
      case measure => simp [intOf]; omega
    · obtain rfl : k = m := by omega
      clear h1
      go_upto_region 7 with (fail)
      go_cut [7] from 8 (fun s wx => ∃ Vn, s = .pointer (some ⟨Vn, 0, none⟩) ∧ MadeView w wx c fi Vn)
      case first =>
        have hT : ∀ w1 : World, w1.heap = (boxed w c).heap → w1.os = w.os → w1.tape = w.tape → w1.output = w.output → Calls Try.prog 22 #[.pointer (some ⟨W, 0, none⟩), .agg #[.int .i64 c, .int .i64 0]] w1 (Tail2 w W pu c (tailOf c n)) := fun w1 e1 e2 e3 e4 => tail2 h e1 e2 e3 e4
        have ht := tail_le c n
        have HFF : Hid (((fi : Nat) : Int) = IntKind.i64.wrap ((pu : Int) - ((tailOf c n : Nat) : Int))) := by
          show _ = _
          have := HFI.out
          rw [IntKind.wrap_i64]
          omega
        go_region_with (go_at_call 22; refine (hT _ ?_ ?_ ?_ ?_).mono ?_; exact rfl; exact rfl; exact rfl; exact rfl; rintro e w2 ⟨rfl, k6, kb0, kb1, hsz, hB⟩)
        all_goals go_wp2
        all_goals go_meet
        all_goals exact ⟨_, rfl, made_view hB HFF.out⟩
      case rest =>
        obtain ⟨Vn, rfl, hM⟩ := hcut
        clear c6 c7
        have hB := hM.2.2
        have hW2 : Win wc W tv vv st n pu (.slice avs k cvs) := h.of_block (hB.block W hW)
        have c7 := hW2.cW
        have f7 := hW2.fr 7
        have hWl := hW2.lt
        have hown2 : wc.ownsRow base 33 1 (.slice avs k cvs) k xs := own_of_block hown (fun j hj => hB.block j (hown.lt j hj).2)
        obtain ⟨i0, hi, hz0, hz1, hz2⟩ := info_parts Try.info33
        have hsz := hB.size
        go_wp2_with (at_builtin; refine wpList_append_own _ rfl _ _ 46 rfl base 33 i0 (.pointer none) 1 8 Try.underlying46 hi hz0 hz1 hz2 rfl (by decide) _ _ _ rfl (hown2.alloc _) ⟨wc.heap.size, 0, none⟩ 1 1 [.pointer (some ⟨Vn, 0, none⟩)] rfl rfl ?c1 ?c2 ?c3 ?c4 ?c5 ?_)
        case c1 =>
          intro j u hj
          match j, hj with
          | 0, hj => simp at hj; subst hj; simp [Addr.add]
        case c2 => intro u hu; simp at hu; subst hu; rfl
        case c3 => unfold maxLen; omega
        case c4 => omega
        case c5 => simp; omega
        intro v' w1 hown' hgrow _
        have hok := viewnew_ok h hM hown hWb hgrow hown'
        obtain ⟨g2, cap2, hv2⟩ := own_shape hown' (by omega)
        have hW1 : w1.heap[W]? = wc.heap[W]? := by
          rw [hgrow.block W (by simp; omega) (fun e => by have := hown.lt W e.symm; omega), Below.heap_alloc _ _ _ hWl]
        have c71 := (hW2.of_block hW1).cW
        have f71 := (hW2.of_block hW1).fr 7
        have hWl1 := (hW2.of_block hW1).lt
        rw [hv2] at hok ⊢
        clear hv2 hown' hgrow hW1 hown2 c7 f7
        go_wp2
        go_ret
        exact hok

end Go.Proofs.Qxb6614701a
