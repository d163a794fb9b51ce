import Derived.Test.Qxb6614701aVwb
import Derived.Test.Qxb6614701aSms
import Derived.Test.Qxb6614701aHld
namespace Go.Proofs.Qxb6614701a
open Go.RowKit

set_option maxRecDepth 100000 in
theorem windowView13_new (W : Nat) (tv vv : Value) (st n pu : Nat) (avs : Option Addr) (m cvs base g V1 : Nat) (xs : List Value) (c c1 : Int) (fi : Nat) (w : World) (h : Win w W tv vv st n pu (.slice avs m cvs))
    (hpm : pu < 9223372036854775808) (hfi : fi + tailOf c n = pu) (hown : w.ownsRow base 33 1 (.slice avs m cvs) m xs) (hm : m ≤ 1) (hb : base ≤ w.heap.size) (hWb : W < base)
    (h1 : m = 1 → avs = some ⟨g, 0, none⟩ ∧ w.cell? ⟨g, 0, none⟩ = some (.pointer (some ⟨V1, 0, none⟩)) ∧ w.cell? ⟨V1, 0, none⟩ = some (.int .i64 c1) ∧ w.cell? ⟨V1, 1, none⟩ = some (.int .i64 0) ∧ c1 ≠ c) :
    Calls Try.prog 13 #[.pointer (some ⟨W, 0, none⟩), .int .i64 c] w (ViewNew w W tv vv st n pu base m (.slice avs m cvs) xs c fi) := by
  have hv := view18_new W tv vv st n pu avs m cvs base g V1 xs c c1 fi w h hpm hfi hown hm hb hWb h1
  clear hfi h1 hown h
  go_enter Try.func13, Try.ntmps13
  go_wp2_with fail
  refine hv.mono ?_
  rintro e w2 ⟨Vn, vs', rfl, hrest⟩
  have HR : Hid (w.heap.size ≤ Vn ∧ View w2 Vn c fi (.pointer none) (.pointer none) ∧ Win w2 W tv vv st n pu vs' ∧ w2.ownsRow base 33 1 vs' (m + 1) (xs ++ [.pointer (some ⟨Vn, 0, none⟩)]) ∧ Keeps W (.slice avs m cvs) w w2) := hrest
  clear hrest hv
  go_wp2
  go_ret
  exact ⟨Vn, vs', rfl, HR.out⟩

def ViewSame (w : World) (V : Nat) (e : Ending) (w' : World) : Prop := e = .returned (.pointer (some ⟨V, 0, none⟩)) ∧ Below w.heap.size w w'

set_option maxHeartbeats 1000000 in
set_option maxRecDepth 100000 in
theorem view18_same (W : Nat) (tv vv : Value) (st n pu : Nat) (cvs g V1 : Nat) (c : Int) (w : World) (h : Win w W tv vv st n pu (.slice (some ⟨g, 0, none⟩) 1 cvs))
    (cg : w.cell? ⟨g, 0, none⟩ = some (.pointer (some ⟨V1, 0, none⟩))) (cv0 : w.cell? ⟨V1, 0, none⟩ = some (.int .i64 c)) (cv1 : w.cell? ⟨V1, 1, none⟩ = some (.int .i64 0)) :
    Calls Try.prog 18 #[.pointer (some ⟨W, 0, none⟩), .agg #[.int .i64 c, .int .i64 0]] w (ViewSame w V1) := by
  have c7 := h.cW
  have hW := h.lt
  have hgs := World.block_lt_of_cell? _ _ cg
  have hvs := World.block_lt_of_cell? _ _ cv0
  go_enter Try.func18, Try.ntmps18
  go_wp2
  go_loopw [13] (fun si wr => si = .int .i64 0 ∧ wr = w.alloc (.cells #[.int .i64 c, .int .i64 0] 45)) (fun si _ => 0)
  case atStart => exact ⟨rfl, rfl⟩
  case round =>
    obtain ⟨rfl, rfl⟩ := hrel
    go_wp2
    go_quiet (fail)
    go_wp2
    go_ret
    have hB := (Below.refl w.heap.size w).alloc (Nat.le_refl _) (.cells #[.int .i64 c, .int .i64 0] 45)
    exact ⟨rfl, hB.os, hB.tape, hB.output, hB.size, hB.block⟩

set_option maxRecDepth 100000 in
theorem windowView13_same (W : Nat) (tv vv : Value) (st n pu : Nat) (cvs g V1 : Nat) (c : Int) (w : World) (h : Win w W tv vv st n pu (.slice (some ⟨g, 0, none⟩) 1 cvs))
    (cg : w.cell? ⟨g, 0, none⟩ = some (.pointer (some ⟨V1, 0, none⟩))) (cv0 : w.cell? ⟨V1, 0, none⟩ = some (.int .i64 c)) (cv1 : w.cell? ⟨V1, 1, none⟩ = some (.int .i64 0)) :
    Calls Try.prog 13 #[.pointer (some ⟨W, 0, none⟩), .int .i64 c] w (ViewSame w V1) := by
  have hv := view18_same W tv vv st n pu cvs g V1 c w h cg cv0 cv1
  clear h cg cv0 cv1
  go_enter Try.func13, Try.ntmps13
  go_wp2_with fail
  refine hv.mono ?_
  rintro e w2 ⟨rfl, hB⟩
  clear hv
  go_wp2
  go_ret
  exact ⟨rfl, hB⟩

set_option maxRecDepth 100000 in
theorem viewSums14_kept (V W : Nat) (c : Int) (fi : Nat) (s1 s2 : Option Addr) (sq : Bool) (S : Nat) (w : World) (h : View w V c fi (.pointer s1) (.pointer s2)) (hs : (if sq then s2 else s1) = some ⟨S, 0, none⟩) :
    Calls Try.prog 14 #[.pointer (some ⟨V, 0, none⟩), .pointer (some ⟨W, 0, none⟩), .bool sq] w (PtrIs w S) := by
  have hv := sums19_kept V W c fi s1 s2 sq S w h hs
  clear h hs
  go_enter Try.func14, Try.ntmps14
  go_wp2_with fail
  refine hv.mono ?_
  rintro e w2 ⟨rfl, rfl⟩
  clear hv
  go_wp2
  go_ret
  exact ⟨rfl, rfl⟩

set_option maxRecDepth 100000 in
theorem viewSums14_new (V W : Nat) (c : Int) (fi : Nat) (s1 s2 : Option Addr) (sq : Bool) (w : World) (h : View w V c fi (.pointer s1) (.pointer s2)) (hs : (if sq then s2 else s1) = none)
    (tv : Value) (av : Option Addr) (L cv st n pu : Nat) (vs : Value) (hW : Win w W tv (.slice av L cv) st n pu vs) (hn : n ≤ L) (hL : L ≤ 4096) (hst : 0 < L → st < L) (hpu : n ≤ pu) (hpm : pu < 9223372036854775808)
    (vb vo : Nat) (Y : Nat → Nat) (hY : Vals w av L vb vo Y) (k0 : Nat) (hk0 : k0 ≤ n) (hfi : fi + k0 = pu)
    (X : Nat → Nat) (hX : ∀ i, i < k0 → X i = Y (ring L st (n - k0 + i)) ∧ X i < 18446744073709551616 ∧ Fl.Fin (X i)) :
    Calls Try.prog 14 #[.pointer (some ⟨V, 0, none⟩), .pointer (some ⟨W, 0, none⟩), .bool sq] w (SumsNew w V c fi (.pointer s1) (.pointer s2) sq X k0) := by
  have hv := sums19_new V W c fi s1 s2 sq w h hs tv av L cv st n pu vs hW hn hL hst hpu hpm vb vo Y hY k0 hk0 hfi X hX
  clear h hs hW hY hX hfi
  go_enter Try.func14, Try.ntmps14
  go_wp2_with fail
  refine hv.mono ?_
  rintro e w2 hS
  have e0 := hS.1
  subst e0
  have HS : Hid (SumsNew w V c fi (.pointer s1) (.pointer s2) sq X k0 (.returned (.pointer (some ⟨w.heap.size, 0, none⟩))) w2) := hS
  clear hv hS
  go_wp2
  go_ret
  exact HS.out

def Fields (w : World) (sq : Bool) (a : Option Addr) (n cap b : Nat) (e : Ending) (w' : World) : Prop := e = .returned (.tuple #[.bool sq, .slice a n cap, .int .i64 b]) ∧ ∃ q, w' = w.drewN q

set_option maxRecDepth 100000 in
theorem fields15 (S : Nat) (sq : Bool) (a : Option Addr) (n cap b : Nat) (w : World) (c0 : w.cell? ⟨S, 0, none⟩ = some (.bool sq)) (c1 : w.cell? ⟨S, 1, none⟩ = some (.slice a n cap)) (c2 : w.cell? ⟨S, 2, none⟩ = some (.int .i64 b)) :
    Calls Try.prog 15 #[.pointer (some ⟨S, 0, none⟩)] w (Fields w sq a n cap b) := by
  have hS := World.block_lt_of_cell? _ _ c0
  go_enter Try.func15, Try.ntmps15
  go_wp2
  go_quiet (fail)
  go_wp2
  go_ret3
  exact ⟨rfl, _, rfl⟩

end Go.Proofs.Qxb6614701a
