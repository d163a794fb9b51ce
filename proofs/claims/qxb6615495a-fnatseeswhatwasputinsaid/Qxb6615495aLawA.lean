import Derived.Test.Qxb6615495aWalk
import Derived.Lib.IndexBytes
namespace Go.Proofs.Qxb6615495a
open Go.RowKit

theorem sees_head (s : ByteArray) (p k : Nat) (c : Int) (h : p < k) : sees (s.extract 0 k) p c = sees s p c := by
  unfold sees
  rw [Lib.extract_data, List.drop_zero, Nat.sub_zero, List.getElem?_take, if_pos h]

theorem sees_tail (s : ByteArray) (p k : Nat) (c : Int) (h : k ≤ p) : sees (s.extract k s.size) (p - k) c = sees s p c := by
  unfold sees
  rw [Lib.extract_to_end, List.getElem?_drop, show k + (p - k) = p from by omega]

/-- How many of the bytes below n are seen. -/
def cnt (s : ByteArray) (p : Nat) : Nat → Nat
  | 0 => 0
  | n + 1 => cnt s p n + (sees s p n).toNat

theorem cnt_in (s : ByteArray) (p : Nat) (h : p < s.size) (n : Nat) : cnt s p n = if s[p].toNat < n then 1 else 0 := by
  induction n with
  | zero => simp [cnt]
  | succ n ih =>
    rw [cnt, ih, sees_in s p n h]
    by_cases e : s[p].toNat = n
    · simp [e]
    · have e' : ((s[p].toNat : Int) == (n : Int)) = false := by simp; omega
      rw [e']
      by_cases hl : s[p].toNat < n
      · rw [if_pos hl, if_pos (by omega)]; rfl
      · rw [if_neg hl, if_neg (by omega)]; rfl

theorem cnt_out (s : ByteArray) (p : Nat) (h : ¬ p < s.size) (n : Nat) : cnt s p n = 0 := by
  induction n with
  | zero => rfl
  | succ n ih => rw [cnt, ih, sees_out s p n h]; rfl

theorem cnt_le (s : ByteArray) (p : Nat) (n : Nat) : cnt s p n ≤ n := by
  induction n with
  | zero => exact Nat.le_refl _
  | succ n ih => rw [cnt]; cases sees s p n <;> simp <;> omega

def LawOk (w : World) (e : Ending) (w' : World) : Prop := e = .returned (.bool true) ∧ Grown w w'

set_option maxHeartbeats 800000 in
set_option maxRecDepth 100000 in
theorem law3 (s : ByteArray) (i j c : Int) (w : World) (hs : s.size ≤ 9223372036854775807) (hi1 : -9223372036854775808 ≤ i) (hi2 : i ≤ 9223372036854775807) (hj1 : -9223372036854775808 ≤ j) (hj2 : j ≤ 9223372036854775807) :
    Calls Try.prog 3 #[.string s, .int .i64 i, .int .i64 j, .int .u8 c] w (LawOk w) := by
  go_enter Try.func3, Try.ntmps3
  go_wp2_with fail
  refine (bytes5 s i j c w hs).mono ?_
  rintro e w1 ⟨b, rfl, rfl⟩
  cases b
  · go_wp2
    go_ret
    exact ⟨rfl, Grown.refl _⟩
  by_cases h1 : 1048576 < s.size
  · go_wp2
    go_ret
    exact ⟨rfl, Grown.refl _⟩
  by_cases h2 : i < 0
  · go_wp2
    go_ret
    exact ⟨rfl, Grown.refl _⟩
  by_cases h3 : j < 0
  · go_wp2
    go_ret
    exact ⟨rfl, Grown.refl _⟩
  by_cases h4 : (s.size : Int) < j
  · go_wp2
    go_ret
    exact ⟨rfl, Grown.refl _⟩
  obtain ⟨p, rfl⟩ := Int.eq_ofNat_of_zero_le (show 0 ≤ i by omega)
  obtain ⟨k, rfl⟩ := Int.eq_ofNat_of_zero_le (show 0 ≤ j by omega)
  go_wp2_with fail
  refine (zat6 p s c w1).mono ?_
  rintro e w2 ⟨rfl, hg2⟩
  have hG2 := hg2 w1 (Grown.refl _)
  clear hg2
  by_cases h5 : p < k
  · go_wp2_with fail
    refine (zat6 p (s.extract 0 k) c w2).mono ?_
    rintro e w3 ⟨rfl, hg3⟩
    rw [sees_head s p k c h5]
    have hG3 := hg3 w1 hG2
    go_wp2
    clear hg3 hG2
    go_loopw [11, 12] (fun sc sb wr => ∃ n : Nat, n ≤ 256 ∧ sb = .int .i64 n ∧ sc = .int .i64 (cnt s p n) ∧ Grown w1 wr) (fun _ sb _ => 256 - (intOf sb).toNat)
    case atStart => exact ⟨0, Nat.zero_le _, rfl, rfl, hG3⟩
    case round =>
      obtain ⟨n, hn, rfl, rfl, hGr⟩ := hrel
      have hc := cnt_le s p n
      by_cases hlt : n < 256
      · go_wp2_with fail
        refine (zat6 p s n wr).mono ?_
        rintro e w4 ⟨rfl, hg4⟩
        have hG4 := hg4 w1 hGr
        clear hg4
        cases hsee : sees s p n
        · have HS : Hid (cnt s p (n + 1) = cnt s p n) := by simp [Hid, cnt, hsee]
          clear hsee
          go_wp2
          go_roundw
          case rel => exact ⟨n + 1, by omega, by go_num, by rw [HS.out], hG4⟩
          case measure => simp [intOf]; omega
        · have HS : Hid (cnt s p (n + 1) = cnt s p n + 1) := by simp [Hid, cnt, hsee]
          clear hsee
          go_wp2
          go_roundw
          case rel => exact ⟨n + 1, by omega, by go_num, by rw [HS.out]; go_num, hG4⟩
          case measure => simp [intOf]; omega
      · obtain rfl : n = 256 := by omega
        by_cases hp : p < s.size
        · have hcn : ((cnt s p 256 : Int) == 1) = true := by rw [cnt_in s p hp, if_pos s[p].toNat_lt]; rfl
          go_wp2
          go_ret
          exact ⟨rfl, hGr⟩
        · have hcn : ((cnt s p 256 : Int) == 0) = true := by rw [cnt_out s p hp]; rfl
          go_wp2
          go_ret
          exact ⟨rfl, hGr⟩
  · go_wp2_with fail
    rw [show ((p : Int) - (k : Int)) = ((p - k : Nat) : Int) from by omega]
    refine (zat6 (p - k) (s.extract k s.size) c w2).mono ?_
    rintro e w3 ⟨rfl, hg3⟩
    rw [sees_tail s p k c (by omega)]
    have hG3 := hg3 w1 hG2
    go_wp2
    clear hg3 hG2
    go_loopw [11, 12] (fun sc sb wr => ∃ n : Nat, n ≤ 256 ∧ sb = .int .i64 n ∧ sc = .int .i64 (cnt s p n) ∧ Grown w1 wr) (fun _ sb _ => 256 - (intOf sb).toNat)
    case atStart => exact ⟨0, Nat.zero_le _, rfl, rfl, hG3⟩
    case round =>
      obtain ⟨n, hn, rfl, rfl, hGr⟩ := hrel
      have hc := cnt_le s p n
      by_cases hlt : n < 256
      · go_wp2_with fail
        refine (zat6 p s n wr).mono ?_
        rintro e w4 ⟨rfl, hg4⟩
        have hG4 := hg4 w1 hGr
        clear hg4
        cases hsee : sees s p n
        · have HS : Hid (cnt s p (n + 1) = cnt s p n) := by simp [Hid, cnt, hsee]
          clear hsee
          go_wp2
          go_roundw
          case rel => exact ⟨n + 1, by omega, by go_num, by rw [HS.out], hG4⟩
          case measure => simp [intOf]; omega
        · have HS : Hid (cnt s p (n + 1) = cnt s p n + 1) := by simp [Hid, cnt, hsee]
          clear hsee
          go_wp2
          go_roundw
          case rel => exact ⟨n + 1, by omega, by go_num, by rw [HS.out]; go_num, hG4⟩
          case measure => simp [intOf]; omega
      · obtain rfl : n = 256 := by omega
        by_cases hp : p < s.size
        · have hcn : ((cnt s p 256 : Int) == 1) = true := by rw [cnt_in s p hp, if_pos s[p].toNat_lt]; rfl
          go_wp2
          go_ret
          exact ⟨rfl, hGr⟩
        · have hcn : ((cnt s p 256 : Int) == 0) = true := by rw [cnt_out s p hp]; rfl
          go_wp2
          go_ret
          exact ⟨rfl, hGr⟩

end Go.Proofs.Qxb6615495a
