import Derived.Test.Qxb6630155aPlain
namespace Go.Proofs.Qxb6630155a

/-- A term of the list: it begins outside every parenthesis, no cut and no OR lies in it, an AND ends it. -/
structure GoodT (K : Kws) (D : Nat → Nat) (s : Nat) (p : Nat × Nat) : Prop where
  le : p.1 ≤ p.2
  s : s ≤ p.1
  d : D p.1 = 0
  cuts : (st K D p.1 p.2).cuts = []
  orr : (st K D p.1 p.2).orr = false
  an : K.an p.2 = true

structure Run (K : Kws) (D : Nat → Nat) (s t : Nat) : Prop where
  good : ∀ p, p ∈ terms s (st K D s t).cuts → GoodT K D s p ∧ p.2 < t
  sa : s ≤ nextS s (st K D s t).cuts
  at_ : nextS s (st K D s t).cuts ≤ t
  d : D (nextS s (st K D s t).cuts) = 0
  back : st K D (nextS s (st K D s t).cuts) t = ⟨(st K D s t).cases, (st K D s t).btw, [], false⟩

theorem orr_back (K : Kws) (D : Nat → Nat) (s t : Nat) (h : s ≤ t) (ho : (st K D s (t + 1)).orr = false) : (st K D s t).orr = false := by
  cases h2 : (st K D s t).orr with
  | false => rfl
  | true => have := st_or K D s t h h2 1; rw [this] at ho; cases ho

theorem run_ok (K : Kws) (D : Nat → Nat) (s n : Nat) (h0 : D s = 0) (hA : ∀ t, s ≤ t → t < n → D t = 0 → K.an t = true → D (t + 1) = 0) : ∀ d, s + d ≤ n → (st K D s (s + d)).orr = false → Run K D s (s + d)
  | 0, _, _ => by
    rw [Nat.add_zero]
    refine ⟨?_, ?_, ?_, ?_, ?_⟩ <;> simp [st_start, St.init, terms, nextS, h0]
  | d + 1, hn, ho => by
    rw [← Nat.add_assoc] at ho ⊢
    have ih := run_ok K D s n h0 hA d (by omega) (orr_back K D s (s + d) (by omega) ho)
    have hsucc := st_succ K D s (s + d) (by omega)
    have hsucc2 := st_succ K D (nextS s (st K D s (s + d)).cuts) (s + d) ih.at_
    have hob := orr_back K D s (s + d) (by omega) ho
    have hAt := hA (s + d) (by omega) (by omega)
    obtain ⟨hg, h1, h2, h3, h4⟩ := ih
    by_cases hd : D (s + d) = 0
    · rw [if_pos hd] at hsucc hsucc2
      rw [h4] at hsucc2
      generalize hσ : st K D s (s + d) = σ at *
      obtain ⟨c, bt, cuts, orr⟩ := σ
      have horr : orr = false := hob
      subst horr
      -- the cut
      by_cases hcut : K.cs (s + d) = false ∧ c = 0 ∧ K.orr (s + d) = false ∧ K.bt (s + d) = false ∧ K.an (s + d) = true ∧ bt = false
      · obtain ⟨e1, e2, e3, e4, e5, e6⟩ := hcut
        have hst : st K D s (s + d + 1) = ⟨0, false, cuts ++ [s + d], false⟩ := by
          rw [hsucc]; simp [upd, e1, e2, e3, e4, e5, e6]
        have hb2 : st K D (nextS s cuts) (s + d) = ⟨0, false, [], false⟩ := by rw [h4, e2, e6]
        refine ⟨?_, ?_, ?_, ?_, ?_⟩
        · rw [hst]
          intro p hp
          simp only [terms_snoc, List.mem_append, List.mem_singleton] at hp
          rcases hp with hp | rfl
          · obtain ⟨a, b⟩ := hg p hp
            exact ⟨a, by omega⟩
          · exact ⟨⟨h2, h1, h3, by rw [hb2], by rw [hb2], e5⟩, by show s + d < _; omega⟩
        · rw [hst]; simp only [nextS_snoc]; omega
        · rw [hst]; simp only [nextS_snoc]; omega
        · rw [hst]; simp only [nextS_snoc]; exact hAt hd e5
        · rw [hst]; simp only [nextS_snoc]; rw [st_start]; rfl
      · -- no cut
        have hkeep : (upd K ⟨c, bt, cuts, false⟩ (s + d)).cuts = cuts ∧ upd K ⟨c, bt, [], false⟩ (s + d) = ⟨(upd K ⟨c, bt, cuts, false⟩ (s + d)).cases, (upd K ⟨c, bt, cuts, false⟩ (s + d)).btw, [], (upd K ⟨c, bt, cuts, false⟩ (s + d)).orr⟩ := by
          unfold upd
          cases e1 : K.cs (s + d) with
          | true => simp
          | false =>
            by_cases e2 : 0 < c
            · cases e3 : K.en (s + d) <;> simp [e2]
            · have e2' : c = 0 := by omega
              subst e2'
              cases e3 : K.orr (s + d) with
              | true => simp
              | false =>
                cases e4 : K.bt (s + d) with
                | true => simp
                | false =>
                  cases e5 : K.an (s + d) with
                  | false => simp
                  | true =>
                    cases bt with
                    | true => simp
                    | false => exact absurd ⟨e1, rfl, e3, e4, e5, rfl⟩ hcut
        obtain ⟨k1, k2⟩ := hkeep
        have hor2 : (upd K ⟨c, bt, cuts, false⟩ (s + d)).orr = false := by rw [← hsucc]; exact ho
        have k1' : (st K D s (s + d + 1)).cuts = cuts := by rw [hsucc]; exact k1
        refine ⟨?_, ?_, ?_, ?_, ?_⟩
        · rw [k1']
          intro p hp
          obtain ⟨a, b⟩ := hg p hp
          exact ⟨a, by omega⟩
        · rw [k1']; exact h1
        · rw [k1']; show nextS s cuts ≤ _; have : nextS s cuts ≤ s + d := h2; omega
        · rw [k1']; exact h3
        · rw [k1', hsucc]
          rw [hsucc2, k2, hor2]
    · rw [if_neg hd] at hsucc hsucc2
      refine ⟨?_, ?_, ?_, ?_, ?_⟩
      · rw [hsucc]
        intro p hp
        obtain ⟨a, b⟩ := hg p hp
        exact ⟨a, by omega⟩
      · rw [hsucc]; exact h1
      · rw [hsucc]; omega
      · rw [hsucc]; exact h3
      · rw [hsucc, hsucc2]; exact h4

/-- THE LIST TILES [s, e): in order, an AND between any two. -/
def Tiled (an : Nat → Bool) (e : Nat) : Nat → List (Nat × Nat) → Prop
  | s, [] => s = e
  | s, p :: r => p.1 = s ∧ p.1 ≤ p.2 ∧ p.2 ≤ e ∧ ((p.2 = e ∧ r = []) ∨ (p.2 < e ∧ an p.2 = true ∧ Tiled an e (p.2 + 1) r))

theorem tiled_of (an : Nat → Bool) (e : Nat) : ∀ (cuts : List Nat) (s : Nat), (∀ p, p ∈ terms s cuts → p.1 ≤ p.2 ∧ p.2 < e ∧ an p.2 = true) → nextS s cuts ≤ e →
    Tiled an e s (terms s cuts ++ (if nextS s cuts < e then [(nextS s cuts, e)] else []))
  | [], s, _, h => by
    have h' : s ≤ e := h
    show Tiled an e s (if s < e then [(s, e)] else [])
    by_cases hs : s < e
    · rw [if_pos hs]; exact ⟨rfl, h', Nat.le_refl _, .inl ⟨rfl, rfl⟩⟩
    · rw [if_neg hs]; show s = e; omega
  | c :: r, s, hg, h => by
    obtain ⟨h1, h2, h3⟩ := hg (s, c) (by simp [terms])
    exact ⟨rfl, h1, by show c ≤ e; have : c < e := h2; omega, .inr ⟨h2, h3, tiled_of an e r (c + 1) (fun p hp => hg p (by simp [terms, hp])) h⟩⟩

theorem conj_tiled (K : Kws) (D : Nat → Nat) (s e n : Nat) (h0 : D s = 0) (hse : s < e) (hen : e ≤ n) (hA : ∀ t, s ≤ t → t < n → D t = 0 → K.an t = true → D (t + 1) = 0) : Tiled K.an e s (conj K D s e) := by
  unfold conj
  cases ho : (st K D s e).orr with
  | true => simp only [if_true]; exact ⟨rfl, by show s ≤ e; omega, Nat.le_refl _, .inl ⟨rfl, rfl⟩⟩
  | false =>
    rw [if_neg (by simp)]
    have hr := run_ok K D s n h0 hA (e - s) (by omega)
    rw [show s + (e - s) = e by omega] at hr
    have hr := hr ho
    exact tiled_of K.an e _ s (fun p hp => by obtain ⟨a, b⟩ := hr.good p hp; exact ⟨a.le, b, a.an⟩) hr.at_

theorem conj_whole (K : Kws) (D : Nat → Nat) (s e n : Nat) (h0 : D s = 0) (hse : s < e) (hen : e ≤ n) (hA : ∀ t, s ≤ t → t < n → D t = 0 → K.an t = true → D (t + 1) = 0) : ∀ p, p ∈ conj K D s e → D p.1 = 0 ∧ s ≤ p.1 ∧ (p.1 < p.2 → conj K D p.1 p.2 = [p]) := by
  intro p hp
  cases ho : (st K D s e).orr with
  | true =>
    have e1 : conj K D s e = [(s, e)] := by unfold conj; rw [if_pos ho]
    rw [e1] at hp
    obtain rfl : p = (s, e) := by simpa using hp
    exact ⟨h0, Nat.le_refl _, fun _ => e1⟩
  | false =>
    have hr := run_ok K D s n h0 hA (e - s) (by omega)
    rw [show s + (e - s) = e by omega] at hr
    have hr := hr ho
    unfold conj at hp
    rw [if_neg (by simp [ho])] at hp
    rcases List.mem_append.1 hp with hp | hp
    · obtain ⟨a, b⟩ := hr.good p hp
      refine ⟨a.d, a.s, fun h => ?_⟩
      unfold conj
      rw [if_neg (by rw [a.orr]; simp), a.cuts]
      simp [terms, nextS, h]
    · by_cases hlt : nextS s (st K D s e).cuts < e
      · rw [if_pos hlt] at hp
        obtain rfl : p = (nextS s (st K D s e).cuts, e) := by simpa using hp
        refine ⟨hr.d, hr.sa, fun _ => ?_⟩
        unfold conj
        rw [hr.back]
        simp [terms, nextS, hlt]
      · rw [if_neg hlt] at hp; cases hp

/-! ### By index -/
def px (L : List (Nat × Nat)) (j : Nat) : Nat := (L.getD j (0, 0)).1
def py (L : List (Nat × Nat)) (j : Nat) : Nat := (L.getD j (0, 0)).2
theorem tiled_bounds {an : Nat → Bool} {e : Nat} : ∀ {L : List (Nat × Nat)} {s : Nat}, Tiled an e s L → ∀ j, j < L.length → s ≤ px L j ∧ px L j ≤ py L j ∧ py L j ≤ e
  | [], _, _, j, hj => absurd hj (by simp)
  | p :: r, s, ⟨h1, h2, h3, h4⟩, 0, _ => ⟨by show s ≤ p.1; omega, h2, h3⟩
  | p :: r, s, ⟨h1, h2, h3, h4⟩, j + 1, hj => by
    rcases h4 with ⟨_, rfl⟩ | ⟨h5, _, h6⟩
    · simp at hj
    · have ih := tiled_bounds h6 j (by simpa using hj)
      show s ≤ px r j ∧ px r j ≤ py r j ∧ py r j ≤ e
      omega
theorem tiled_next {an : Nat → Bool} {e : Nat} : ∀ {L : List (Nat × Nat)} {s : Nat}, Tiled an e s L → ∀ j, j + 1 < L.length → px L (j + 1) = py L j + 1 ∧ py L j < e ∧ an (py L j) = true
  | [], _, _, j, hj => absurd hj (by simp)
  | [p], s, _, j, hj => by simp at hj
  | p :: q :: r, s, ⟨h1, h2, h3, h4⟩, j, hj => by
    rcases h4 with ⟨_, h⟩ | ⟨h5, h6, h7⟩
    · cases h
    · cases j with
      | zero => exact ⟨h7.1, h5, h6⟩
      | succ j => exact tiled_next h7 j (by simpa using hj)
theorem tiled_last {an : Nat → Bool} {e : Nat} : ∀ {L : List (Nat × Nat)} {s m : Nat}, Tiled an e s L → L.length = m + 1 → py L m = e ∨ (py L m + 1 = e ∧ an (py L m) = true)
  | [], _, m, _, h => by simp at h
  | [p], s, m, ⟨h1, h2, h3, h4⟩, h => by
    obtain rfl : m = 0 := by simpa using h.symm
    rcases h4 with ⟨h5, _⟩ | ⟨h5, h6, h7⟩
    · exact .inl h5
    · exact .inr ⟨h7, h6⟩
  | p :: q :: r, s, m, ⟨h1, h2, h3, h4⟩, h => by
    rcases h4 with ⟨_, h'⟩ | ⟨h5, h6, h7⟩
    · cases h'
    · obtain ⟨m', rfl⟩ : ∃ m', m = m' + 1 := ⟨m - 1, by simp at h; omega⟩
      exact tiled_last (m := m') h7 (by simpa using h)
theorem tiled_first {an : Nat → Bool} {e s : Nat} {L : List (Nat × Nat)} (h : Tiled an e s L) (hse : s < e) : L ≠ [] ∧ px L 0 = s := by
  cases L with
  | nil => have : s = e := h; omega
  | cons p r => exact ⟨by simp, h.1⟩
theorem pair_mem (L : List (Nat × Nat)) (j : Nat) (hj : j < L.length) : (px L j, py L j) ∈ L := by
  have : L[j] = (px L j, py L j) := by simp [px, py, hj]
  rw [← this]
  exact List.getElem_mem hj
end Go.Proofs.Qxb6630155a
