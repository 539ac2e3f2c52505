namespace Go.Proofs.Qxb6630097a

/-- One column more: the spans so far, THE LAST FIRST. -/
def step : List (Int × Int) → Int → List (Int × Int)
  | [], c => [(c, c + 1)]
  | p :: r, c => if c < p.2 then p :: r else if c = p.2 then (p.1, p.2 + 1) :: r else (c, c + 1) :: p :: r

/-- The spans of the first k columns, the last first. -/
def spansOf (g : Nat → Int) : Nat → List (Int × Int)
  | 0 => []
  | k + 1 => step (spansOf g k) (g k)

/-- Spans, the last first: each not empty, a gap between any two, within [0, N]. -/
def Good (N : Int) : List (Int × Int) → Prop
  | [] => True
  | [p] => 0 ≤ p.1 ∧ p.1 < p.2 ∧ p.2 ≤ N
  | p :: q :: r => q.2 < p.1 ∧ p.1 < p.2 ∧ p.2 ≤ N ∧ Good N (q :: r)

def In (j : Int) (rs : List (Int × Int)) : Prop := ∃ p, p ∈ rs ∧ p.1 ≤ j ∧ j < p.2

theorem step_nonempty (rs : List (Int × Int)) (c : Int) : step rs c ≠ [] := by
  cases rs with
  | nil => simp [step]
  | cons p r => simp only [step]; split <;> (try split) <;> simp

theorem good_cons {N : Int} {p : Int × Int} {r : List (Int × Int)} (h : Good N (p :: r)) : 0 ≤ p.1 ∧ p.1 < p.2 ∧ p.2 ≤ N ∧ Good N r ∧ ∀ q, q ∈ r → q.2 < p.1 := by
  induction r generalizing p with
  | nil => exact ⟨h.1, h.2.1, h.2.2, trivial, by simp⟩
  | cons q r ih =>
    obtain ⟨h1, h2, h3, h4⟩ := h
    obtain ⟨g1, g2, g3, g4, g5⟩ := ih h4
    refine ⟨by omega, h2, h3, h4, ?_⟩
    intro s hs
    rcases List.mem_cons.1 hs with rfl | hs
    · exact h1
    · have := g5 s hs; omega

theorem good_replace {N : Int} {p p' : Int × Int} {r : List (Int × Int)} (h : Good N (p :: r)) (e1 : p'.1 = p.1) (e2 : p'.1 < p'.2) (e3 : p'.2 ≤ N) : Good N (p' :: r) := by
  cases r with
  | nil => exact ⟨by have := h.1; omega, e2, e3⟩
  | cons q r => exact ⟨by have := h.1; omega, e2, e3, h.2.2.2⟩

/-- What is kept between two columns: the last end is the column before and one. -/
structure Kept (N : Int) (g : Nat → Int) (k : Nat) (rs : List (Int × Int)) : Prop where
  good : Good N rs
  empty : rs = [] ↔ k = 0
  last : ∀ p r, rs = p :: r → ∃ j, j + 1 = k ∧ p.2 = g j + 1
  cover : ∀ j, In j rs ↔ ∃ i, i < k ∧ g i = j

theorem kept_zero (N : Int) (g : Nat → Int) : Kept N g 0 [] :=
  ⟨trivial, by simp, fun p r h => (by cases h), fun j => by simp [In]⟩

theorem in_cons (j : Int) (p : Int × Int) (r : List (Int × Int)) : In j (p :: r) ↔ (p.1 ≤ j ∧ j < p.2) ∨ In j r := by
  simp [In]

theorem kept_step {N : Int} {g : Nat → Int} {k : Nat} {rs : List (Int × Int)} (h : Kept N g k rs) (h0 : 0 ≤ g k) (h1 : g k < N) (hs : ∀ j, j + 1 = k → g j ≤ g k) : Kept N g (k + 1) (step rs (g k)) := by
  have cov : ∀ j, (∃ i, i < k + 1 ∧ g i = j) ↔ (∃ i, i < k ∧ g i = j) ∨ g k = j := by
    intro j
    constructor
    · rintro ⟨i, hi, e⟩
      by_cases e2 : i = k
      · subst e2; exact .inr e
      · exact .inl ⟨i, by omega, e⟩
    · rintro (⟨i, hi, e⟩ | e)
      · exact ⟨i, by omega, e⟩
      · exact ⟨k, by omega, e⟩
  match rs, h with
  | [], h =>
    have hk : k = 0 := h.empty.1 rfl
    refine ⟨⟨h0, by show g k < g k + 1; omega, by show g k + 1 ≤ N; omega⟩, by simp [step], ?_, ?_⟩
    · intro p r e
      simp only [step, List.cons.injEq] at e
      exact ⟨k, rfl, by rw [← e.1]⟩
    · intro j
      rw [cov, ← h.cover]
      simp only [step, in_cons]
      constructor
      · rintro (⟨a, b⟩ | a)
        · exact .inr (by omega)
        · exact .inl a
      · rintro (a | a)
        · exact .inr a
        · exact .inl (by omega)
  | p :: r, h =>
    obtain ⟨j0, hj0, hp2⟩ := h.last p r rfl
    have hle := hs j0 hj0
    obtain ⟨q0, q1, q2, q3, q4⟩ := good_cons h.good
    simp only [step]
    by_cases c1 : g k < p.2
    · rw [if_pos c1]
      have e : g k = g j0 := by omega
      refine ⟨h.good, by simp, ?_, ?_⟩
      · intro p' r' e2
        rw [List.cons.injEq] at e2
        exact ⟨k, rfl, by rw [← e2.1]; omega⟩
      · intro j
        rw [cov, ← h.cover]
        constructor
        · exact .inl
        · rintro (a | a)
          · exact a
          · exact (h.cover j).2 ⟨j0, by omega, by omega⟩
    · rw [if_neg c1]
      by_cases c2 : g k = p.2
      · rw [if_pos c2]
        refine ⟨good_replace h.good rfl (by show p.1 < p.2 + 1; omega) (by show p.2 + 1 ≤ N; omega), by simp, ?_, ?_⟩
        · intro p' r' e2
          rw [List.cons.injEq] at e2
          exact ⟨k, rfl, by rw [← e2.1, c2]⟩
        · intro j
          rw [cov, ← h.cover, in_cons, in_cons]
          show ((p.1 ≤ j ∧ j < p.2 + 1) ∨ In j r) ↔ _
          constructor
          · rintro (⟨a, b⟩ | a)
            · by_cases e : j < p.2
              · exact .inl (.inl ⟨a, e⟩)
              · exact .inr (by omega)
            · exact .inl (.inr a)
          · rintro ((⟨a, b⟩ | a) | a)
            · exact .inl ⟨a, by omega⟩
            · exact .inr a
            · exact .inl (by omega)
      · rw [if_neg c2]
        refine ⟨⟨by show p.2 < g k; omega, by show g k < g k + 1; omega, by show g k + 1 ≤ N; omega, h.good⟩, by simp, ?_, ?_⟩
        · intro p' r' e2
          rw [List.cons.injEq] at e2
          exact ⟨k, rfl, by rw [← e2.1]⟩
        · intro j
          rw [cov, ← h.cover, in_cons]
          show ((g k ≤ j ∧ j < g k + 1) ∨ In j (p :: r)) ↔ _
          constructor
          · rintro (⟨a, b⟩ | a)
            · exact .inr (by omega)
            · exact .inl a
          · rintro (a | a)
            · exact .inr a
            · exact .inl (by omega)

theorem kept_all {N : Int} {g : Nat → Int} {n : Nat} (hb : ∀ j, j < n → 0 ≤ g j ∧ g j < N) (hs : ∀ j, j + 1 < n → g j ≤ g (j + 1)) : ∀ k, k ≤ n → Kept N g k (spansOf g k)
  | 0, _ => kept_zero N g
  | k + 1, h => kept_step (kept_all hb hs k (by omega)) (hb k (by omega)).1 (hb k (by omega)).2 (fun j e => by subst e; exact hs j (by omega))

theorem spansOf_length_le (g : Nat → Int) : ∀ k, (spansOf g k).length ≤ k
  | 0 => by simp [spansOf]
  | k + 1 => by
    have := spansOf_length_le g k
    simp only [spansOf]
    revert this
    cases spansOf g k with
    | nil => simp [step]
    | cons p r => intro h; simp only [step]; split <;> (try split) <;> simp_all <;> omega

end Go.Proofs.Qxb6630097a
