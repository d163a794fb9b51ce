import Derived.Test.Qxb6615495aRows
import Derived.WalkKit
import Derived.WalkLawsBesides
import Derived.Deep.QuietTactic
import Derived.BigQuiet
namespace Go.Proofs.Qxb6615495a
open Go.RowKit

/-- Does the text hold byte c at place p? -/
def sees (s : ByteArray) (p : Nat) (c : Int) : Bool := match s.data.toList[p]? with
  | some b => ((b.toNat : Int) == c)
  | none => false

/-- A callee's end: a bool; what was only grown before is only grown behind. -/
def Saw (w : World) (b : Bool) (e : Ending) (w' : World) : Prop := e = .returned (.bool b) ∧ ∀ W, Grown W w → Grown W w'

theorem list_get (s : ByteArray) (p : Nat) (h : p < s.size) : s.data.toList[p]? = some s[p] := by
  rw [Array.getElem?_toList, Array.getElem?_eq_getElem (by simpa using h)]
  rfl

theorem sees_in (s : ByteArray) (p : Nat) (c : Int) (h : p < s.size) : sees s p c = ((s[p].toNat : Int) == c) := by
  unfold sees
  rw [list_get s p h]

theorem sees_out (s : ByteArray) (p : Nat) (c : Int) (h : ¬ p < s.size) : sees s p c = false := by
  unfold sees
  rw [Array.getElem?_toList, Array.getElem?_eq_none (by have : s.data.size = s.size := rfl; omega)]

theorem at8 (b p : Nat) (s : ByteArray) (c : Int) (w : World) (h0 : w.cell? ⟨b, 0, none⟩ = some (.string s)) (h1 : w.cell? ⟨b, 1, none⟩ = some (.int .i64 p)) :
    Calls Try.prog 8 #[.pointer (some ⟨b, 0, none⟩), .int .u8 c] w (Saw w (sees s p c)) := by
  by_cases hlt : p < s.size
  · have hlt' : (p : Int) < (s.size : Int) := by omega
    go_enter Try.func8, Try.ntmps8
    go_wp2
    go_quiet (fail)
    go_wp2
    go_ret
    rw [sees_in s p c hlt]
    exact ⟨rfl, fun _ h => h⟩
  · have hlt' : decide ((p : Int) < (s.size : Int)) = false := by simp; omega
    go_enter Try.func8, Try.ntmps8
    go_wp2
    go_quiet (fail)
    go_wp2
    go_ret
    rw [sees_out s p c hlt]
    exact ⟨rfl, fun _ h => h⟩

theorem zat6 (p : Nat) (s : ByteArray) (c : Int) (w : World) : Calls Try.prog 6 #[.string s, .int .i64 p, .int .u8 c] w (Saw w (sees s p c)) := by
  have h0 : (w.alloc (.cells #[.string s, .int .i64 p] 28)).cell? ⟨w.heap.size, 0, none⟩ = some (.string s) := by simp
  have h1 : (w.alloc (.cells #[.string s, .int .i64 p] 28)).cell? ⟨w.heap.size, 1, none⟩ = some (.int .i64 p) := by simp
  go_enter Try.func6, Try.ntmps6
  go_wp2_with fail
  refine (at8 w.heap.size p s c _ h0 h1).mono ?_
  rintro e w1 ⟨rfl, hg⟩
  go_wp2
  go_ret
  exact ⟨rfl, fun W h => hg W (h.alloc _ _)⟩

/-- A reader's end: some bool; the world stands. -/
def SomeB (w : World) (e : Ending) (w' : World) : Prop := ∃ b, e = .returned (.bool b) ∧ w' = w

theorem bytes5 (s : ByteArray) (i j c : Int) (w : World) (hs : s.size ≤ 9223372036854775807) : Calls Try.prog 5 #[.string s, .int .i64 i, .int .i64 j, .int .u8 c] w (SomeB w) := by
  by_cases h : s.size ≤ 1048576
  · go_enter Try.func5, Try.ntmps5
    go_wp2
    go_ret
    exact ⟨_, rfl, rfl⟩
  · go_enter Try.func5, Try.ntmps5
    go_wp2
    go_ret
    exact ⟨_, rfl, rfl⟩

theorem bytes7 (s t : ByteArray) (c d : Int) (w : World) (hs : s.size ≤ 9223372036854775807) (ht : t.size ≤ 9223372036854775807) : Calls Try.prog 7 #[.string s, .string t, .int .u8 c, .int .u8 d] w (SomeB w) := by
  by_cases h : s.size ≤ 1048576
  · by_cases h2 : t.size ≤ 1048576
    · by_cases h3 : s.size + t.size ≤ 1048576
      · go_enter Try.func7, Try.ntmps7
        go_wp2
        go_ret
        exact ⟨_, rfl, rfl⟩
      · go_enter Try.func7, Try.ntmps7
        go_wp2
        go_ret
        exact ⟨_, rfl, rfl⟩
    · go_enter Try.func7, Try.ntmps7
      go_wp2
      go_ret
      exact ⟨_, rfl, rfl⟩
  · go_enter Try.func7, Try.ntmps7
    go_wp2
    go_ret
    exact ⟨_, rfl, rfl⟩

end Go.Proofs.Qxb6615495a
