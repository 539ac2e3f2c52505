import Derived.Test.Qxb6630155aConj
import Derived.Test.Qxb6630155aTile
namespace Go.Proofs.Qxb6630155a
open Go.RowKit

theorem low_up (c K : Int) (hc0 : 0 ≤ c) (hc1 : c ≤ 255) (hK : 65 ≤ K ∧ K ≤ 90) : (lowI c = lowI K) ↔ (upI c = K) := by
  unfold lowI upI
  rw [if_pos hK]
  split <;> split <;> omega
/-- For a keyword in upper case the two tests are one. -/
theorem kw_is (k : Int) (t kw : ByteArray) (h : ∀ i, i < kw.size → 65 ≤ byteAt kw i ∧ byteAt kw i ≤ 90) : kwB k t kw = isB k t kw := by
  unfold kwB isB
  rw [decide_eq_decide]
  constructor
  · rintro ⟨a, b, c⟩
    exact ⟨a, b, fun i hi => (low_up _ _ (byteAt_bd t i).1 (byteAt_bd t i).2 (h i hi)).2 (c i hi)⟩
  · rintro ⟨a, b, c⟩
    exact ⟨a, b, fun i hi => (low_up _ _ (byteAt_bd t i).1 (byteAt_bd t i).2 (h i hi)).1 (c i hi)⟩
theorem up3 (a b c : UInt8) (ha : 65 ≤ a.toNat ∧ a.toNat ≤ 90) (hb : 65 ≤ b.toNat ∧ b.toNat ≤ 90) (hc : 65 ≤ c.toNat ∧ c.toNat ≤ 90) : ∀ i, i < (⟨#[a, b, c]⟩ : ByteArray).size → 65 ≤ byteAt ⟨#[a, b, c]⟩ i ∧ byteAt ⟨#[a, b, c]⟩ i ≤ 90 := by
  intro i hi
  rw [byteAt_eq _ i hi]
  have hi3 : i < 3 := hi
  match i, hi3 with
  | 0, _ => show 65 ≤ (a.toNat : Int) ∧ (a.toNat : Int) ≤ 90; omega
  | 1, _ => show 65 ≤ (b.toNat : Int) ∧ (b.toNat : Int) ≤ 90; omega
  | 2, _ => show 65 ≤ (c.toNat : Int) ∧ (c.toNat : Int) ≤ 90; omega
theorem kw_and (k : Int) (t : ByteArray) : kwB k t ⟨#[65, 78, 68]⟩ = isB k t ⟨#[65, 78, 68]⟩ := kw_is k t _ (up3 _ _ _ (by decide) (by decide) (by decide))
theorem kw_end (k : Int) (t : ByteArray) : kwB k t ⟨#[69, 78, 68]⟩ = isB k t ⟨#[69, 78, 68]⟩ := kw_is k t _ (up3 _ _ _ (by decide) (by decide) (by decide))

/-- The depth ahead of token t, from s on. -/
def depR (tx : Nat → ByteArray) (s : Nat) : Nat → Nat
  | 0 => 0
  | d + 1 => stepD (depR tx s d) (opB tx (s + d)) (clB tx (s + d))
def dep (tx : Nat → ByteArray) (s t : Nat) : Nat := depR tx s (t - s)
theorem dep_start (tx : Nat → ByteArray) (s : Nat) : dep tx s s = 0 := by simp [dep, depR]
theorem dep_ok (tx : Nat → ByteArray) (n s : Nat) : Depths tx n s (dep tx s) := fun t h1 _ => by
  unfold dep
  rw [show t + 1 - s = (t - s) + 1 by omega]
  simp only [depR]
  rw [show s + (t - s) = t by omega]
/-- An AND opens no parenthesis. -/
theorem and_no_op (kd : Nat → Int) (tx : Nat → ByteArray) (t : Nat) (h : (kws kd tx).an t = true) : opB tx t = false := by
  have h2 : isB (kd t) (tx t) ⟨#[65, 78, 68]⟩ = true := h
  simp only [isB, decide_eq_true_eq] at h2
  have hs : (tx t).size = 3 := h2.2.1
  cases ho : opB tx t with
  | false => rfl
  | true =>
    simp only [opB, beq_iff_eq] at ho
    have : (tx t).toList.length = 1 := by rw [ho]; rfl
    have e : (tx t).toList.length = (tx t).size := by
      rw [ByteArray.toList_eq, Array.length_toList]; rfl
    omega
theorem dep_and (kd : Nat → Int) (tx : Nat → ByteArray) (n s : Nat) : ∀ t, s ≤ t → t < n → dep tx s t = 0 → (kws kd tx).an t = true → dep tx s (t + 1) = 0 := fun t h1 h2 h3 h4 => by
  rw [dep_ok tx n s t h1 h2, h3, and_no_op kd tx t h4]
  simp [stepD]

/-- Conjuncts of an empty span: nil. -/
theorem conj_none (a : Option Addr) (n cap : Nat) (s e : Int) (h : e ≤ s) (w : World) :
    Calls Try.prog 7 #[.slice a n cap, .agg #[.int .i64 s, .int .i64 e]] w fun x w' => x = .returned (.slice none 0 0) ∧ Below w.heap.size w w' := by
  have h' : ¬ s < e := by omega
  go_enter Try.func7, Try.ntmps7
  go_wp2
  refine wp_loop_rounds 1 ?_
  rw [rounds_succ]
  go_wp2
  go_ret
  exact ⟨rfl, (Below.refl _ _).alloc (Nat.le_refl _) _⟩

/-- THE SLICE (some g, L.length) HOLDS the spans L. -/
structure Spans (w : World) (g : Nat) (L : List (Nat × Nat)) : Prop where
  lt : g < w.heap.size
  x : ∀ j, j < L.length → w.cell? ⟨g, j * 2, none⟩ = some (.int .i64 (px L j : Int))
  y : ∀ j, j < L.length → w.cell? ⟨g, j * 2 + 1, none⟩ = some (.int .i64 (py L j : Int))
theorem Spans.below {w w' : World} {g : Nat} {L : List (Nat × Nat)} (h : Spans w g L) (hb : Below w.heap.size w w') : Spans w' g L :=
  ⟨by have := hb.size; have := h.lt; omega, fun j hj => (hb.cell (p := ⟨g, j * 2, none⟩) h.lt).trans (h.x j hj), fun j hj => (hb.cell (p := ⟨g, j * 2 + 1, none⟩) h.lt).trans (h.y j hj)⟩
theorem flatS_x : ∀ (L : List (Nat × Nat)) (j : Nat), j < L.length → (flatS L)[j * 2]? = some (.int .i64 (px L j : Int)) ∧ (flatS L)[j * 2 + 1]? = some (.int .i64 (py L j : Int))
  | [], j, h => absurd h (by simp)
  | p :: r, 0, _ => ⟨rfl, rfl⟩
  | p :: r, j + 1, h => by
    have ih := flatS_x r j (by simpa using h)
    rw [show (j + 1) * 2 = j * 2 + 1 + 1 by omega]
    exact ih
theorem spans_of {w : World} {base : Nat} {v : Value} {L : List (Nat × Nat)} (h : w.ownsRow base 31 2 v L.length (flatS L)) (hne : L ≠ []) : ∃ g cap, v = .slice (some ⟨g, 0, none⟩) L.length cap ∧ Spans w g L := by
  rcases h.2 with ⟨rfl, h0⟩ | ⟨g, cap, cur, rfl, hb, hg, r⟩
  · exact absurd (List.length_eq_zero_iff.1 h0) hne
  · refine ⟨g, cap, rfl, (h.lt g rfl).2, fun j hj => ?_, fun j hj => ?_⟩
    · rw [h.cellAt _ (by omega), (flatS_x L j hj).1]
    · rw [h.cellAt _ (by omega), (flatS_x L j hj).2]
end Go.Proofs.Qxb6630155a
