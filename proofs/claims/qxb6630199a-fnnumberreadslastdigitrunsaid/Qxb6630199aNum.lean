import Derived.Test.Qxb6630199aRows
import Derived.WalkKit
import Derived.ProofKit
import Derived.Below
import Derived.RegionTactic
import Derived.ChangeAlike
import Derived.BigRegion
import Derived.Lib.OthersKept
import Derived.Deep.QuietTactic
import Derived.BigQuiet
namespace Go.Proofs.Qxb6630199a
open Go.RowKit

/-- A fact that the walk must not use as a rewrite rule. -/
structure Hid (p : Prop) : Prop where
  out : p
instance {p : Prop} : Coe p (Hid p) := ⟨Hid.mk⟩

def dgI (x : Int) : Bool := decide (48 ≤ x) && decide (x ≤ 57)
/-- Byte i of s. -/
def byteAt (s : ByteArray) (i : Nat) : Int := if h : i < s.size then (s[i].toNat : Int) else 0
theorem byteAt_bd (s : ByteArray) (i : Nat) : 0 ≤ byteAt s i ∧ byteAt s i ≤ 255 := by
  unfold byteAt
  split
  · have := s[i].toNat_lt; omega
  · omega
theorem byteAt_eq (s : ByteArray) (i : Nat) (h : i < s.size) : byteAt s i = (s[i].toNat : Int) := by simp [byteAt, h]
def dg (s : ByteArray) (i : Nat) : Bool := dgI (byteAt s i)
theorem dg_eq (s : ByteArray) (i : Nat) (h : i < s.size) : dgI (s[i].toNat : Int) = dg s i := by rw [dg, byteAt_eq s i h]

theorem isdig7 (x : Int) (w : World) : Calls Try.prog 7 #[.int .u8 x] w fun e w' => e = .returned (.bool (dgI x)) ∧ w' = w := by
  by_cases h1 : 48 ≤ x
  · by_cases h2 : x ≤ 57
    · have e : dgI x = true := by simp [dgI, h1, h2]
      rw [e]
      clear e
      go_enter Try.func7, Try.ntmps7
      go_wp2
      go_ret
      exact ⟨rfl, rfl⟩
    · have e : dgI x = false := by simp [dgI, h1, h2]
      rw [e]
      clear e
      go_enter Try.func7, Try.ntmps7
      go_wp2
      go_ret
      exact ⟨rfl, rfl⟩
  · have e : dgI x = false := by simp [dgI, h1]
    rw [e]
    clear e
    go_enter Try.func7, Try.ntmps7
    go_wp2
    go_ret
    exact ⟨rfl, rfl⟩
theorem isdig13 (x : Int) (w : World) : Calls Try.prog 13 #[.int .u8 x] w fun e w' => e = .returned (.bool (dgI x)) ∧ w' = w := by
  by_cases h1 : 48 ≤ x
  · by_cases h2 : x ≤ 57
    · have e : dgI x = true := by simp [dgI, h1, h2]
      rw [e]
      clear e
      go_enter Try.func13, Try.ntmps13
      go_wp2
      go_ret
      exact ⟨rfl, rfl⟩
    · have e : dgI x = false := by simp [dgI, h1, h2]
      rw [e]
      clear e
      go_enter Try.func13, Try.ntmps13
      go_wp2
      go_ret
      exact ⟨rfl, rfl⟩
  · have e : dgI x = false := by simp [dgI, h1]
    rw [e]
    clear e
    go_enter Try.func13, Try.ntmps13
    go_wp2
    go_ret
    exact ⟨rfl, rfl⟩

/-- How many digits among the first p bytes. -/
def cnt (s : ByteArray) : Nat → Nat
  | 0 => 0
  | p + 1 => cnt s p + (if dg s p then 1 else 0)
theorem cnt_le (s : ByteArray) : ∀ p, cnt s p ≤ p
  | 0 => Nat.le_refl _
  | p + 1 => by
    have := cnt_le s p
    unfold cnt
    split <;> omega

set_option maxHeartbeats 1000000 in
theorem count_any (s : ByteArray) (w : World) (hs : s.size ≤ maxLen) : Calls Try.prog 11 #[.string s] w fun e w' => e = .returned (.int .i64 (cnt s s.size : Nat)) ∧ w' = w := by
  unfold maxLen at hs
  go_enter Try.func11, Try.ntmps11
  go_wp2
  go_loop [3, 4] (fun c i => ∃ p : Nat, p ≤ s.size ∧ i = .int .i64 p ∧ c = .int .i64 (cnt s p : Nat)) (fun _ i => s.size - (intOf i).toNat)
  case atStart => exact ⟨0, Nat.zero_le _, rfl, rfl⟩
  case round =>
    obtain ⟨p, hp, rfl, rfl⟩ := hrel
    by_cases hlt : p < s.size
    · have hli : (p : Int) < (s.size : Int) := by omega
      have hd := dg_eq s p hlt
      have hc := cnt_le s p
      have HC : Hid (cnt s (p + 1) = cnt s p + (if dg s p then 1 else 0)) := ⟨rfl⟩
      generalize cnt s p = c at *
      cases hdp : dg s p with
      | true =>
        rw [hdp] at hd HC
        clear hdp
        go_wp2_with (go_at_call 7; refine (isdig7 _ _).mono ?_; rintro e' w1 ⟨rfl, hw⟩; obtain rfl := hw)
        go_round
        case rel => exact ⟨p + 1, by omega, by go_num, by rw [HC.out]; go_num⟩
        case measure => simp [intOf]; omega
      | false =>
        rw [hdp] at hd HC
        clear hdp
        go_wp2_with (go_at_call 7; refine (isdig7 _ _).mono ?_; rintro e' w1 ⟨rfl, hw⟩; obtain rfl := hw)
        go_round
        case rel => exact ⟨p + 1, by omega, by go_num, by rw [HC.out]; go_num⟩
        case measure => simp [intOf]; omega
    · obtain rfl : s.size = p := by omega
      go_wp2
      go_ret
      exact ⟨rfl, rfl⟩
end Go.Proofs.Qxb6630199a
