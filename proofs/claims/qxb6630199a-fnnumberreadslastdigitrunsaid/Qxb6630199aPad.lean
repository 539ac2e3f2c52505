import Derived.Test.Qxb6630199aLaw
import Derived.Laws.BytesArg
import Derived.Deep.OwnRows
namespace Go.Proofs.Qxb6630199a
open Go.RowKit

def digAt (V t j : Nat) : Nat := 48 + V / 10 ^ (t - 1 - j) % 10
def digL (V t : Nat) : List Int := (List.range t).map fun j => ((digAt V t j : Nat) : Int)
/-- V in t digits. -/
def padS (V t : Nat) : ByteArray := strOfNums (digL V t)
theorem padS_size (V t : Nat) : (padS V t).size = t := by simp [padS, strOfNums, digL, ByteArray.size]
theorem digAt_bd (V t j : Nat) : 48 ≤ digAt V t j ∧ digAt V t j ≤ 57 := by unfold digAt; omega
theorem padS_byte (V t j : Nat) (h : j < t) : byteAt (padS V t) j = (digAt V t j : Nat) := by
  rw [byteAt_eq _ _ (by rw [padS_size]; exact h)]
  have hb := digAt_bd V t j
  have : (padS V t)[j]'(by rw [padS_size]; exact h) = UInt8.ofNat (digAt V t j) := by
    simp [padS, strOfNums, digL, ByteArray.getElem_eq_getElem_data]
  rw [this]
  simp
  omega
theorem padS_grow (V m : Nat) (h : V < 10 ^ m) : (⟨#[48]⟩ : ByteArray) ++ padS V m = padS V (m + 1) := by
  refine ext_bytes (by rw [ByteArray.size_append, padS_size, padS_size]; show 1 + m = m + 1; omega) fun j hj => ?_
  rw [ByteArray.size_append, padS_size] at hj
  have h1 : (⟨#[48]⟩ : ByteArray).size = 1 := rfl
  rw [padS_byte _ _ _ (by omega)]
  by_cases h0 : j = 0
  · subst h0
    rw [byteAt_left (by omega)]
    have : digAt V (m + 1) 0 = 48 := by
      unfold digAt
      rw [show m + 1 - 1 - 0 = m by omega, Nat.div_eq_of_lt h]
    rw [this]
    rfl
  · obtain ⟨j', rfl⟩ : ∃ j', j = 1 + j' := ⟨j - 1, by omega⟩
    have := byteAt_right (a := (⟨#[48]⟩ : ByteArray)) (b := padS V m) j'
    rw [h1] at this
    rw [this, padS_byte _ _ _ (by omega)]
    unfold digAt
    rw [show m + 1 - 1 - (1 + j') = m - 1 - j' by omega]

theorem val_digit (k : ByteArray) (i n : Nat) (h : ∀ j, i ≤ j → j < i + n → dg k j = true) : ∀ m, m ≤ n → ∀ j, j < m → ((digAt (val k i m) m j : Nat) : Int) = byteAt k (i + j)
  | 0, _, j, hj => absurd hj (by omega)
  | m + 1, hm, j, hj => by
    have hd := h (i + m) (by omega) (by omega)
    simp [dg, dgI] at hd
    have e : val k i (m + 1) = 10 * val k i m + (byteAt k (i + m) - 48).toNat := rfl
    unfold digAt
    rw [e]
    by_cases hjm : j = m
    · subst hjm
      rw [show j + 1 - 1 - j = 0 by omega]
      simp
      omega
    · have ih := val_digit k i n h m (by omega) j (by omega)
      unfold digAt at ih
      rw [← ih, show m + 1 - 1 - j = (m - 1 - j) + 1 by omega, Nat.pow_succ', ← Nat.div_div_eq_div_mul, show (10 * val k i m + (byteAt k (i + m) - 48).toNat) / 10 = val k i m by omega]

theorem rejoin (k : ByteArray) (E i : Nat) (h : Ends k E i) : k.extract 0 i ++ padS (val k i (E - i)) (E - i) ++ k.extract E k.size = k := by
  have hle := h.le
  have hie := h.ie
  have s1 : (k.extract 0 i).size = i := by rw [ByteArray.size_extract]; omega
  have s2 : (k.extract E k.size).size = k.size - E := by rw [ByteArray.size_extract]; omega
  refine ext_bytes (by rw [ByteArray.size_append, ByteArray.size_append, s1, s2, padS_size]; omega) fun j hj => ?_
  rw [ByteArray.size_append, ByteArray.size_append, s1, s2, padS_size] at hj
  by_cases h1 : j < i
  · rw [byteAt_left (by rw [ByteArray.size_append]; omega), byteAt_left (by omega), byteAt_extract (by omega) (by omega)]
    simp
  · by_cases h2 : j < E
    · rw [byteAt_left (by rw [ByteArray.size_append, padS_size]; omega)]
      have := byteAt_right (a := k.extract 0 i) (b := padS (val k i (E - i)) (E - i)) (j - i)
      rw [s1, show i + (j - i) = j by omega] at this
      rw [this, padS_byte _ _ _ (by omega), val_digit k i (E - i) (fun j h1 h2 => h.all j h1 (by omega)) (E - i) (Nat.le_refl _) (j - i) (by omega)]
      congr 1; omega
    · have := byteAt_right (a := k.extract 0 i ++ padS (val k i (E - i)) (E - i)) (b := k.extract E k.size) (j - E)
      rw [ByteArray.size_append, s1, padS_size, show i + (E - i) + (j - E) = j by omega] at this
      rw [this, byteAt_extract (by omega) (by omega)]
      congr 1; omega
end Go.Proofs.Qxb6630199a
