import Derived.Test.Qxb6630155aProg
import Derived.WalkKit
import Derived.WalkSpells
import Derived.WalkLawsBesides
import Derived.Deep.OwnRows
import Derived.Deep.QuietTactic
import Derived.BigQuiet
namespace Go.Proofs.Qxb6630155a
open Go.RowKit

def lowI (c : Int) : Int := if 65 ≤ c ∧ c ≤ 90 then c + 32 else c
def upI (c : Int) : Int := if 97 ≤ c ∧ c ≤ 122 then c - 32 else c

theorem ret_int {k : IntKind} {a b : Int} (h : a = b) : Ending.returned (.int k a) = .returned (.int k b) := by rw [h]
theorem ret_bool {a b : Bool} (h : a = b) : Ending.returned (.bool a) = .returned (.bool b) := by rw [h]

theorem lower_any (c : Int) (h0 : 0 ≤ c) (h1 : c ≤ 255) (w : World) : Calls Try.prog 15 #[.int .u8 c] w fun e w' => e = .returned (.int .u8 (lowI c)) ∧ w' = w := by
  by_cases ha : 65 ≤ c
  · by_cases hb : c ≤ 90
    · have e : lowI c = c + 97 - 65 := by unfold lowI; rw [if_pos ⟨ha, hb⟩]; omega
      rw [e]
      clear e
      go_enter Try.func15, Try.ntmps15
      go_wp2
      go_ret
      exact ⟨rfl, rfl⟩
    · have e : lowI c = c := by unfold lowI; rw [if_neg (by omega)]
      rw [e]
      clear e
      go_enter Try.func15, Try.ntmps15
      go_wp2
      go_ret
      exact ⟨rfl, rfl⟩
  · have e : lowI c = c := by unfold lowI; rw [if_neg (by omega)]
    rw [e]
    clear e
    go_enter Try.func15, Try.ntmps15
    go_wp2
    go_ret
    exact ⟨rfl, rfl⟩
theorem upper_any (c : Int) (h0 : 0 ≤ c) (h1 : c ≤ 255) (w : World) : Calls Try.prog 13 #[.int .u8 c] w fun e w' => e = .returned (.int .u8 (upI c)) ∧ w' = w := by
  by_cases ha : 97 ≤ c
  · by_cases hb : c ≤ 122
    · have e : upI c = c - 32 := by unfold upI; rw [if_pos ⟨ha, hb⟩]
      rw [e]
      clear e
      go_enter Try.func13, Try.ntmps13
      go_wp2
      go_ret
      exact ⟨rfl, rfl⟩
    · have e : upI c = c := by unfold upI; rw [if_neg (by omega)]
      rw [e]
      clear e
      go_enter Try.func13, Try.ntmps13
      go_wp2
      go_ret
      exact ⟨rfl, rfl⟩
  · have e : upI c = c := by unfold upI; rw [if_neg (by omega)]
    rw [e]
    clear e
    go_enter Try.func13, Try.ntmps13
    go_wp2
    go_ret
    exact ⟨rfl, rfl⟩

theorem lower_byte (b : UInt8) (w : World) : Calls Try.prog 15 #[.int .u8 (b.toNat : Int)] w fun e w' => e = .returned (.int .u8 (lowI (b.toNat : Int))) ∧ w' = w := lower_any _ (by omega) (by have := b.toNat_lt; omega) w
theorem upper_byte (b : UInt8) (w : World) : Calls Try.prog 13 #[.int .u8 (b.toNat : Int)] w fun e w' => e = .returned (.int .u8 (upI (b.toNat : Int))) ∧ w' = w := upper_any _ (by omega) (by have := b.toNat_lt; omega) w

/-- Byte i of s. -/
def byteAt (s : ByteArray) (i : Nat) : Int := if h : i < s.size then (s[i].toNat : Int) else 0
theorem byteAt_bd (s : ByteArray) (i : Nat) : 0 ≤ byteAt s i ∧ byteAt s i ≤ 255 := by
  unfold byteAt
  split
  · have := s[i].toNat_lt; omega
  · omega
theorem byteAt_eq (s : ByteArray) (i : Nat) (h : i < s.size) : byteAt s i = (s[i].toNat : Int) := by simp [byteAt, h]

/-- Token.Is: a word whose text is kw, up to ASCII case. -/
def isB (k : Int) (t kw : ByteArray) : Bool := decide (k = 2 ∧ t.size = kw.size ∧ ∀ i, i < kw.size → lowI (byteAt t i) = lowI (byteAt kw i))
/-- isKeyword: kw is given in upper case. -/
def kwB (k : Int) (t kw : ByteArray) : Bool := decide (k = 2 ∧ t.size = kw.size ∧ ∀ i, i < kw.size → upI (byteAt t i) = byteAt kw i)

theorem isB_no1 {k : Int} {t kw : ByteArray} (h : k ≠ 2) : isB k t kw = false := by simp [isB, h]
theorem isB_no2 {k : Int} {t kw : ByteArray} (h : t.size ≠ kw.size) : isB k t kw = false := by simp [isB, h]
theorem isB_no3 {k : Int} {t kw : ByteArray} {i : Nat} (hi : i < kw.size) (h : lowI (byteAt t i) ≠ lowI (byteAt kw i)) : isB k t kw = false := by
  simp only [isB, decide_eq_false_iff_not]; rintro ⟨_, _, h3⟩; exact h (h3 i hi)
theorem isB_yes {k : Int} {t kw : ByteArray} (h1 : k = 2) (h2 : t.size = kw.size) (h3 : ∀ i, i < kw.size → lowI (byteAt t i) = lowI (byteAt kw i)) : isB k t kw = true := by
  simp only [isB, decide_eq_true_eq]; exact ⟨h1, h2, h3⟩

set_option maxHeartbeats 400000 in
theorem is_any (k p : Int) (t kw : ByteArray) (w : World) (ht : t.size ≤ 1048576) (_hk : kw.size ≤ 1048576) :
    Calls Try.prog 12 #[.agg #[.int .i64 k, .string t, .int .i64 p], .string kw] w fun e w' => e = .returned (.bool (isB k t kw)) ∧ Below w.heap.size w w' := by
  by_cases h2 : k = 2
  · have h2b : (k != 2) = false := by simpa using h2
    by_cases hs : t.size = kw.size
    · have hsb : ((t.size : Int) != (kw.size : Int)) = false := by simp [hs]
      have HP : Hid (isB k t kw = decide (∀ i, i < kw.size → lowI (byteAt t i) = lowI (byteAt kw i))) := by show _ = _; simp [isB, h2, hs]
      generalize isB k t kw = ans at *
      have H2 : Hid (k = 2) := h2
      have HS : Hid (t.size = kw.size) := hs
      clear h2 hs
      go_enter Try.func12, Try.ntmps12
      go_wp2
      have hcell : (w.alloc (.cells #[.int .i64 k, .string t, .int .i64 p] 36)).cell? ⟨w.heap.size, 1, none⟩ = some (.string t) := by rw [World.cell?_alloc_at (hn := rfl)]; rfl
      have hbel : Below w.heap.size w (w.alloc (.cells #[.int .i64 k, .string t, .int .i64 p] 36)) := (Below.refl _ _).alloc (Nat.le_refl _) _
      go_loopw [5] (fun i wr => ∃ j : Nat, j ≤ kw.size ∧ i = .int .i64 j ∧ (∀ i, i < j → lowI (byteAt t i) = lowI (byteAt kw i)) ∧ wr.cell? ⟨w.heap.size, 1, none⟩ = some (.string t) ∧ Below w.heap.size w wr) (fun i _ => kw.size - (intOf i).toNat)
      case atStart => exact ⟨0, Nat.zero_le _, rfl, fun i hi => absurd hi (by omega), hcell, hbel⟩
      case round =>
        obtain ⟨j, hj, rfl, hall, hc, hb⟩ := hrel
        clear hcell hbel
        by_cases hlt : j < kw.size
        · have hjt : j < t.size := by rw [HS.out]; exact hlt
          have hj1 : (j : Int) < (t.size : Int) := by omega
          have hj2 : (j : Int) < (kw.size : Int) := by omega
          have HA : Hid (∀ i, i < j → lowI (byteAt t i) = lowI (byteAt kw i)) := hall
          clear hall
          by_cases heq : lowI (byteAt t j) = lowI (byteAt kw j)
          · have heq' := heq
            rw [byteAt_eq t j hjt, byteAt_eq kw j hlt] at heq'
            have hne : (lowI (t[j].toNat : Int) != lowI (kw[j].toNat : Int)) = false := by simpa using heq'
            have HE : Hid (lowI (byteAt t j) = lowI (byteAt kw j)) := heq
            clear heq heq'
            go_wp2
            go_quiet ((go_at_call 15; exact Calls.quiet_of_same (lower_byte _ _)))
            go_wp2
            go_roundw
            case rel =>
              refine ⟨j + 1, by omega, by go_num, fun i hi => ?_, hc, hb.trans ⟨rfl, rfl, rfl, Nat.le_refl _, fun _ _ => rfl⟩⟩
              by_cases e : i = j
              · subst e; exact HE.out
              · exact HA.out i (by omega)
            case measure => simp [intOf]; omega
          · have heq' := heq
            rw [byteAt_eq t j hjt, byteAt_eq kw j hlt] at heq'
            have hne : (lowI (t[j].toNat : Int) != lowI (kw[j].toNat : Int)) = true := by simpa using heq'
            have HE : Hid (¬ lowI (byteAt t j) = lowI (byteAt kw j)) := heq
            clear heq heq'
            go_wp2
            go_quiet ((go_at_call 15; exact Calls.quiet_of_same (lower_byte _ _)))
            go_wp2
            go_ret
            refine ⟨ret_bool ?_, hb.trans ⟨rfl, rfl, rfl, Nat.le_refl _, fun _ _ => rfl⟩⟩
            rw [HP.out]
            symm
            rw [decide_eq_false_iff_not]
            exact fun h => HE.out (h j hlt)
        · obtain rfl : kw.size = j := by omega
          have HA : Hid (∀ i, i < kw.size → lowI (byteAt t i) = lowI (byteAt kw i)) := hall
          clear hall
          go_wp2
          go_ret
          refine ⟨ret_bool ?_, hb⟩
          rw [HP.out]
          symm
          rw [decide_eq_true_eq]
          exact HA.out
    · have hsb : ((t.size : Int) != (kw.size : Int)) = true := by simp; omega
      rw [isB_no2 hs]
      clear hs h2
      go_enter Try.func12, Try.ntmps12
      go_wp2
      go_ret
      exact ⟨rfl, (Below.refl _ _).alloc (Nat.le_refl _) _⟩
  · have h2b : (k != 2) = true := by simpa using h2
    rw [isB_no1 h2]
    clear h2
    go_enter Try.func12, Try.ntmps12
    go_wp2
    go_ret
    exact ⟨rfl, (Below.refl _ _).alloc (Nat.le_refl _) _⟩
theorem kwB_no1 {k : Int} {t kw : ByteArray} (h : k ≠ 2) : kwB k t kw = false := by simp [kwB, h]
theorem kwB_no2 {k : Int} {t kw : ByteArray} (h : t.size ≠ kw.size) : kwB k t kw = false := by simp [kwB, h]

set_option maxHeartbeats 400000 in
theorem kw_any (k p : Int) (t kw : ByteArray) (w : World) (ht : t.size ≤ 1048576) (_hk : kw.size ≤ 1048576) :
    Calls Try.prog 10 #[.agg #[.int .i64 k, .string t, .int .i64 p], .string kw] w fun e w' => e = .returned (.bool (kwB k t kw)) ∧ Below w.heap.size w w' := by
  by_cases h2 : k = 2
  · have h2b : (k != 2) = false := by simpa using h2
    by_cases hs : t.size = kw.size
    · have hsb : ((t.size : Int) != (kw.size : Int)) = false := by simp [hs]
      have HP : Hid (kwB k t kw = decide (∀ i, i < kw.size → upI (byteAt t i) = byteAt kw i)) := by show _ = _; simp [kwB, h2, hs]
      generalize kwB k t kw = ans at *
      have H2 : Hid (k = 2) := h2
      have HS : Hid (t.size = kw.size) := hs
      clear h2 hs
      go_enter Try.func10, Try.ntmps10
      go_wp2
      have hcell : (w.alloc (.cells #[.int .i64 k, .string t, .int .i64 p] 25)).cell? ⟨w.heap.size, 1, none⟩ = some (.string t) := by rw [World.cell?_alloc_at (hn := rfl)]; rfl
      have hbel : Below w.heap.size w (w.alloc (.cells #[.int .i64 k, .string t, .int .i64 p] 25)) := (Below.refl _ _).alloc (Nat.le_refl _) _
      go_loopw [5] (fun i wr => ∃ j : Nat, j ≤ kw.size ∧ i = .int .i64 j ∧ (∀ i, i < j → upI (byteAt t i) = byteAt kw i) ∧ wr.cell? ⟨w.heap.size, 1, none⟩ = some (.string t) ∧ Below w.heap.size w wr) (fun i _ => kw.size - (intOf i).toNat)
      case atStart => exact ⟨0, Nat.zero_le _, rfl, fun i hi => absurd hi (by omega), hcell, hbel⟩
      case round =>
        obtain ⟨j, hj, rfl, hall, hc, hb⟩ := hrel
        clear hcell hbel
        by_cases hlt : j < kw.size
        · have hjt : j < t.size := by rw [HS.out]; exact hlt
          have hj1 : (j : Int) < (t.size : Int) := by omega
          have hj2 : (j : Int) < (kw.size : Int) := by omega
          have HA : Hid (∀ i, i < j → upI (byteAt t i) = byteAt kw i) := hall
          clear hall
          by_cases heq : upI (byteAt t j) = byteAt kw j
          · have heq' := heq
            rw [byteAt_eq t j hjt, byteAt_eq kw j hlt] at heq'
            have hne : (upI (t[j].toNat : Int) != (kw[j].toNat : Int)) = false := by simpa using heq'
            have HE : Hid (upI (byteAt t j) = byteAt kw j) := heq
            clear heq heq'
            go_wp2
            go_quiet ((go_at_call 13; exact Calls.quiet_of_same (upper_byte _ _)))
            go_wp2
            go_roundw
            case rel =>
              refine ⟨j + 1, by omega, by go_num, fun i hi => ?_, hc, hb.trans ⟨rfl, rfl, rfl, Nat.le_refl _, fun _ _ => rfl⟩⟩
              by_cases e : i = j
              · subst e; exact HE.out
              · exact HA.out i (by omega)
            case measure => simp [intOf]; omega
          · have heq' := heq
            rw [byteAt_eq t j hjt, byteAt_eq kw j hlt] at heq'
            have hne : (upI (t[j].toNat : Int) != (kw[j].toNat : Int)) = true := by simpa using heq'
            have HE : Hid (¬ upI (byteAt t j) = byteAt kw j) := heq
            clear heq heq'
            go_wp2
            go_quiet ((go_at_call 13; exact Calls.quiet_of_same (upper_byte _ _)))
            go_wp2
            go_ret
            refine ⟨ret_bool ?_, hb.trans ⟨rfl, rfl, rfl, Nat.le_refl _, fun _ _ => rfl⟩⟩
            rw [HP.out]
            symm
            rw [decide_eq_false_iff_not]
            exact fun h => HE.out (h j hlt)
        · obtain rfl : kw.size = j := by omega
          have HA : Hid (∀ i, i < kw.size → upI (byteAt t i) = byteAt kw i) := hall
          clear hall
          go_wp2
          go_ret
          refine ⟨ret_bool ?_, hb⟩
          rw [HP.out]
          symm
          rw [decide_eq_true_eq]
          exact HA.out
    · have hsb : ((t.size : Int) != (kw.size : Int)) = true := by simp; omega
      rw [kwB_no2 hs]
      clear hs h2
      go_enter Try.func10, Try.ntmps10
      go_wp2
      go_ret
      exact ⟨rfl, (Below.refl _ _).alloc (Nat.le_refl _) _⟩
  · have h2b : (k != 2) = true := by simpa using h2
    rw [kwB_no1 h2]
    clear h2
    go_enter Try.func10, Try.ntmps10
    go_wp2
    go_ret
    exact ⟨rfl, (Below.refl _ _).alloc (Nat.le_refl _) _⟩
end Go.Proofs.Qxb6630155a
