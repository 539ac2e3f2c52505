import Derived.Test.Qxb6630097aPlain
import Derived.Test.Qxb6630097aMarks
import Derived.Laws.OwnMore
namespace Go.Proofs.Qxb6630097a
open Go.RowKit

/-- The first of span i, counted from the front ('rs': the last first). -/
def xOf : List (Int × Int) → Nat → Int
  | [], _ => 0
  | p :: r, i => if i = r.length then p.1 else xOf r i
def yOf : List (Int × Int) → Nat → Int
  | [], _ => 0
  | p :: r, i => if i = r.length then p.2 else yOf r i
/-- The cells of the spans, in their order. -/
def flat : List (Int × Int) → List Value
  | [] => []
  | p :: r => flat r ++ [.int .i64 p.1, .int .i64 p.2]
def lastE : List (Int × Int) → Int
  | [] => 0
  | p :: _ => p.2

theorem flat_length : ∀ rs, (flat rs).length = rs.length * 2
  | [] => rfl
  | p :: r => by simp [flat, flat_length r]; omega
theorem flat_x : ∀ (rs : List (Int × Int)) (i : Nat), i < rs.length → (flat rs)[i * 2]? = some (.int .i64 (xOf rs i))
  | [], i, h => absurd h (by simp)
  | p :: r, i, h => by
    simp only [flat, xOf]
    by_cases e : i = r.length
    · subst e
      rw [if_pos rfl, List.getElem?_append_right (by rw [flat_length]; omega), flat_length]
      simp
    · have hi : i < r.length := by simp at h; omega
      rw [if_neg e, List.getElem?_append_left (by rw [flat_length]; omega)]
      exact flat_x r i hi
theorem flat_y : ∀ (rs : List (Int × Int)) (i : Nat), i < rs.length → (flat rs)[i * 2 + 1]? = some (.int .i64 (yOf rs i))
  | [], i, h => absurd h (by simp)
  | p :: r, i, h => by
    simp only [flat, yOf]
    by_cases e : i = r.length
    · subst e
      rw [if_pos rfl, List.getElem?_append_right (by rw [flat_length]; omega), flat_length]
      simp
    · have hi : i < r.length := by simp at h; omega
      rw [if_neg e, List.getElem?_append_left (by rw [flat_length]; omega)]
      exact flat_y r i hi
theorem flat_set (p : Int × Int) (r : List (Int × Int)) (e : Int) : (flat (p :: r)).set (r.length * 2 + 1) (.int .i64 e) = flat ((p.1, e) :: r) := by
  simp only [flat]
  rw [List.set_append_right (h := by rw [flat_length]; omega), flat_length]
  simp

theorem wf_of_good {N : Nat} : ∀ rs, Good N rs → WF (xOf rs) (yOf rs) rs.length N
  | [], _ => fun i h => absurd h (by simp)
  | p :: r, h => by
    obtain ⟨h0, h1, h2, h3, h4⟩ := good_cons h
    have ih := wf_of_good r h3
    have ex : ∀ i, i < r.length → xOf (p :: r) i = xOf r i := fun i hi => by simp only [xOf]; rw [if_neg (by omega)]
    have ey : ∀ i, i < r.length → yOf (p :: r) i = yOf r i := fun i hi => by simp only [yOf]; rw [if_neg (by omega)]
    have epe : ∀ i, i ≤ r.length → pe (yOf (p :: r)) i = pe (yOf r) i := fun i hi => by
      cases i with
      | zero => rfl
      | succ i => exact ey i (by omega)
    intro i hi
    rw [epe i (by simp at hi; omega)]
    by_cases e : i = r.length
    · subst e
      have e1 : xOf (p :: r) r.length = p.1 := by simp [xOf]
      have e2 : yOf (p :: r) r.length = p.2 := by simp [yOf]
      rw [e1, e2]
      refine ⟨h0, h1, h2, ?_⟩
      cases r with
      | nil => show (-1 : Int) < p.1; omega
      | cons q r =>
        have e3 : pe (yOf (q :: r)) (q :: r).length = q.2 := by simp [pe, yOf]
        rw [e3]
        exact h4 q (by simp)
    · have hi : i < r.length := by simp at hi; omega
      rw [ex i hi, ey i hi]
      exact ih i hi

theorem cov_in (j : Nat) : ∀ rs, cov (xOf rs) (yOf rs) rs.length j = true ↔ In j rs
  | [] => by simp [cov, In]
  | p :: r => by
    rw [in_cons, ← cov_in j r]
    simp only [cov, decide_eq_true_eq]
    constructor
    · rintro ⟨i, hi, a, b⟩
      by_cases e : i = r.length
      · subst e; exact .inl ⟨by simpa [xOf] using a, by simpa [yOf] using b⟩
      · right; exact ⟨i, by simp at hi; omega, by simpa [xOf, e] using a, by simpa [yOf, e] using b⟩
    · rintro (⟨a, b⟩ | ⟨i, hi, a, b⟩)
      · exact ⟨r.length, by simp, by simpa [xOf] using a, by simpa [yOf] using b⟩
      · exact ⟨i, by simp; omega, by simpa [xOf, show i ≠ r.length by omega] using a, by simpa [yOf, show i ≠ r.length by omega] using b⟩

theorem lastE_eq (rs : List (Int × Int)) (m : Nat) (h : rs.length = m + 1) : lastE rs = yOf rs m := by
  cases rs with
  | nil => simp at h
  | cons p r => simp at h; subst h; simp [lastE, yOf]
end Go.Proofs.Qxb6630097a
