import Derived.Test.Qxb6630199aZz
namespace Go.Proofs.Qxb6630199a
open Go.RowKit

theorem byteAt_left {a b : ByteArray} {j : Nat} (h : j < a.size) : byteAt (a ++ b) j = byteAt a j := by
  rw [byteAt_eq _ _ (by rw [ByteArray.size_append]; omega), byteAt_eq _ _ h, ByteArray.getElem_append_left h]
theorem byteAt_right {a b : ByteArray} (j : Nat) : byteAt (a ++ b) (a.size + j) = byteAt b j := by
  by_cases h : j < b.size
  · rw [byteAt_eq _ _ (by rw [ByteArray.size_append]; omega), byteAt_eq _ _ h, ByteArray.getElem_append_right (by omega)]
    simp
  · simp [byteAt, h]
theorem dg_left {a b : ByteArray} {j : Nat} (h : j < a.size) : dg (a ++ b) j = dg a j := by rw [dg, byteAt_left h, dg]
theorem dg_right {a b : ByteArray} (j : Nat) : dg (a ++ b) (a.size + j) = dg b j := by rw [dg, byteAt_right, dg]

theorem Ends.unique {k : ByteArray} {E i E' i' : Nat} (h : Ends k E i) (h' : Ends k E' i') : E = E' ∧ i = i' := by
  have aux : ∀ {E i E' i' : Nat}, Ends k E i → Ends k E' i' → E ≤ E' := by
    intro E i E' i' h h'
    rcases h.last with e | hd
    · omega
    · by_cases hlt : E' < E
      · have := h'.none (E - 1) (by omega) (by have := h.le; omega)
        rw [this] at hd
        cases hd
      · omega
  have e : E = E' := Nat.le_antisymm (aux h h') (aux h' h)
  subst e
  have aux2 : ∀ {i i' : Nat}, Ends k E i → Ends k E i' → i ≤ i' := by
    intro i i' h h'
    by_cases hlt : i' < i
    · rcases h.stop with e | e | e
      · omega
      · have := h'.most; omega
      · have := h'.all (i - 1) (by omega) (by have := h.ie; omega)
        rw [this] at e
        cases e
    · omega
  exact ⟨rfl, Nat.le_antisymm (aux2 h h') (aux2 h' h)⟩

theorem cnt_zero (s : ByteArray) : ∀ p, cnt s p = 0 → ∀ j, j < p → dg s j = false
  | 0, _, j, h => absurd h (by omega)
  | p + 1, h, j, hj => by
    have e : cnt s (p + 1) = cnt s p + (if dg s p then 1 else 0) := rfl
    rw [e] at h
    by_cases hjp : j = p
    · subst hjp
      cases hd : dg s j with
      | false => rfl
      | true => rw [hd] at h; simp at h
    · exact cnt_zero s p (by omega) j (by omega)
theorem cnt_of_none (s : ByteArray) : ∀ p, (∀ j, j < p → dg s j = false) → cnt s p = 0
  | 0, _ => rfl
  | p + 1, h => by
    have e : cnt s (p + 1) = cnt s p + (if dg s p then 1 else 0) := rfl
    rw [e, cnt_of_none s p (fun j hj => h j (by omega)), h p (by omega)]
    rfl
theorem cnt_ge (s : ByteArray) (i E : Nat) (h : ∀ j, i ≤ j → j < E → dg s j = true) : ∀ p, p ≤ E → p - i ≤ cnt s p
  | 0, _ => by simp
  | p + 1, hp => by
    have ih := cnt_ge s i E h p (by omega)
    have e : cnt s (p + 1) = cnt s p + (if dg s p then 1 else 0) := rfl
    rw [e]
    by_cases hip : i ≤ p
    · rw [h p hip (by omega)]
      simp
      omega
    · omega
theorem cnt_mono (s : ByteArray) (p : Nat) : ∀ q, cnt s p ≤ cnt s (p + q)
  | 0 => Nat.le_refl _
  | q + 1 => by
    have ih := cnt_mono s p q
    have e : cnt s (p + (q + 1)) = cnt s (p + q) + (if dg s (p + q) then 1 else 0) := rfl
    omega
theorem Ends.cntLe {k : ByteArray} {E i : Nat} (h : Ends k E i) : E - i ≤ cnt k k.size := by
  have h1 := cnt_ge k i E h.all E (Nat.le_refl _)
  have h2 := cnt_mono k E (k.size - E)
  rw [show E + (k.size - E) = k.size by have := h.le; omega] at h2
  omega
theorem Ends.zero {k : ByteArray} {E i : Nat} (h : Ends k E i) (he : E ≤ i) : E = 0 := by
  rcases h.last with e | hd
  · exact e
  · rcases h.stop with e | e | e
    · omega
    · omega
    · have hi := h.ie
      rw [show i - 1 = E - 1 by omega] at e
      rw [e] at hd
      cases hd
theorem Ends.zeroIff {k : ByteArray} {E i : Nat} (h : Ends k E i) : cnt k k.size = 0 ↔ E = 0 := by
  constructor
  · intro hc
    rcases h.last with e | hd
    · exact e
    · by_cases he : E = 0
      · exact he
      · have := cnt_zero k _ hc (E - 1) (by have := h.le; omega)
        rw [this] at hd
        cases hd
  · rintro rfl
    exact cnt_of_none k _ (fun j hj => h.none j (Nat.zero_le _) hj)

theorem Ends.right {a b : ByteArray} {E i : Nat} (h : Ends b E i) (h0 : 0 < E) (hm : a.size = 0 ∨ dg a (a.size - 1) = false ∨ dg b 0 = false) : Ends (a ++ b) (a.size + E) (a.size + i) := by
  refine ⟨by rw [ByteArray.size_append]; have := h.le; omega, fun j h1 h2 => ?_, Or.inr ?_, by have := h.ie; omega, fun j h1 h2 => ?_, by have := h.most; omega, ?_⟩
  · rw [ByteArray.size_append] at h2
    rw [show j = a.size + (j - a.size) by omega, dg_right]
    exact h.none _ (by omega) (by omega)
  · rw [show a.size + E - 1 = a.size + (E - 1) by omega, dg_right]
    rcases h.last with e | e
    · omega
    · exact e
  · rw [show j = a.size + (j - a.size) by omega, dg_right]
    exact h.all _ (by omega) (by omega)
  · by_cases hi : i = 0
    · subst hi
      rcases hm with e | e | e
      · left; omega
      · by_cases ha : a.size = 0
        · left; omega
        · right; right
          rw [show a.size + 0 - 1 = a.size - 1 by omega, dg_left (by omega)]
          exact e
      · have := h.all 0 (Nat.le_refl _) h0
        rw [this] at e
        cases e
    · rcases h.stop with e | e | e
      · omega
      · right; left; omega
      · right; right
        rw [show a.size + i - 1 = a.size + (i - 1) by omega, dg_right]
        exact e
theorem Ends.left {a b : ByteArray} {E i : Nat} (h : Ends a E i) (hb : ∀ j, j < b.size → dg b j = false) : Ends (a ++ b) E i := by
  have hle := h.le
  have hie := h.ie
  refine ⟨by rw [ByteArray.size_append]; omega, fun j h1 h2 => ?_, ?_, hie, fun j h1 h2 => ?_, h.most, ?_⟩
  · rw [ByteArray.size_append] at h2
    by_cases hj : j < a.size
    · rw [dg_left hj]; exact h.none j h1 hj
    · rw [show j = a.size + (j - a.size) by omega, dg_right]
      exact hb _ (by omega)
  · rcases h.last with e | e
    · exact Or.inl e
    · by_cases h0 : E = 0
      · exact Or.inl h0
      · right; rw [dg_left (by omega)]; exact e
  · rw [dg_left (by omega)]; exact h.all j h1 h2
  · rcases h.stop with e | e | e
    · exact Or.inl e
    · exact Or.inr (Or.inl e)
    · by_cases h0 : i = 0
      · exact Or.inl h0
      · right; right; rw [dg_left (by omega)]; exact e

theorem val_right (a b : ByteArray) (i : Nat) : ∀ m, val (a ++ b) (a.size + i) m = val b i m
  | 0 => rfl
  | m + 1 => by
    have ih := val_right a b i m
    show 10 * val (a ++ b) (a.size + i) m + _ = 10 * val b i m + _
    rw [ih, Nat.add_assoc, byteAt_right]
theorem val_left (a b : ByteArray) (i : Nat) : ∀ m, i + m ≤ a.size → val (a ++ b) i m = val a i m
  | 0, _ => rfl
  | m + 1, h => by
    have ih := val_left a b i m (by omega)
    show 10 * val (a ++ b) i m + _ = 10 * val a i m + _
    rw [ih, byteAt_left (by omega)]

theorem ext_bytes {x y : ByteArray} (h1 : x.size = y.size) (h2 : ∀ j, j < x.size → byteAt x j = byteAt y j) : x = y := by
  refine ByteArray.ext_getElem h1 fun j hj hj' => ?_
  have := h2 j hj
  rw [byteAt_eq x j hj, byteAt_eq y j hj'] at this
  exact UInt8.toNat_inj.1 (by omega)
theorem byteAt_extract {k : ByteArray} {i e : Nat} (he : e ≤ k.size) {j : Nat} (h : i + j < e) : byteAt (k.extract i e) j = byteAt k (i + j) := by
  rw [byteAt_eq _ _ (by rw [ByteArray.size_extract]; omega), byteAt_eq _ _ (by omega), ByteArray.getElem_extract]
theorem extract_past (a : ByteArray) (i e : Nat) (h : a.size ≤ e) : a.extract i e = a.extract i a.size := by
  refine ByteArray.ext_getElem (by simp [ByteArray.size_extract]; omega) fun j hj hj' => ?_
  rw [ByteArray.getElem_extract, ByteArray.getElem_extract]
theorem extract_none (a : ByteArray) (i e : Nat) (h : a.size ≤ i) : a.extract i e = ByteArray.empty :=
  ByteArray.ext_getElem (by simp [ByteArray.size_extract]; omega) fun j hj hj' => absurd hj' (by simp)
theorem extract_whole (a : ByteArray) : a.extract 0 a.size = a :=
  ByteArray.ext_getElem (by simp) fun j hj hj' => by rw [ByteArray.getElem_extract]; simp
theorem pre_right (a b : ByteArray) (i : Nat) : (a ++ b).extract 0 (a.size + i) = a ++ b.extract 0 i := by
  rw [ByteArray.extract_append, extract_past a 0 (a.size + i) (by omega), extract_whole]
  simp
theorem suf_right (a b : ByteArray) (E : Nat) : (a ++ b).extract (a.size + E) (a ++ b).size = b.extract E b.size := by
  rw [ByteArray.extract_append, ByteArray.size_append, extract_none a _ _ (by omega)]
  simp
theorem pre_left (a b : ByteArray) (i : Nat) (h : i ≤ a.size) : (a ++ b).extract 0 i = a.extract 0 i := by
  rw [ByteArray.extract_append]
  simp [Nat.sub_eq_zero_of_le h]
theorem suf_left (a b : ByteArray) (E : Nat) (h : E ≤ a.size) : (a ++ b).extract E (a ++ b).size = a.extract E a.size ++ b := by
  rw [ByteArray.extract_append, ByteArray.size_append, extract_past a E (a.size + b.size) (by omega)]
  simp [Nat.sub_eq_zero_of_le h]
end Go.Proofs.Qxb6630199a
