namespace Go.Proofs.Qxb6630155a

/-- The five keywords, at each place. -/
structure Kws where
  cs : Nat → Bool
  en : Nat → Bool
  orr : Nat → Bool
  bt : Nat → Bool
  an : Nat → Bool

/-- What both functions carry from token to token. -/
structure St where
  cases : Nat
  btw : Bool
  cuts : List Nat
  orr : Bool

def St.init : St := ⟨0, false, [], false⟩

def upd (K : Kws) (σ : St) (k : Nat) : St :=
  if K.cs k = true then { σ with cases := σ.cases + 1 }
  else if 0 < σ.cases then (if K.en k = true then { σ with cases := σ.cases - 1 } else σ)
  else if K.orr k = true then { σ with orr := true }
  else if K.bt k = true then { σ with btw := true }
  else if K.an k = true then (if σ.btw = true then { σ with btw := false } else { σ with cuts := σ.cuts ++ [k] })
  else σ

/-- The state d tokens on from s: only tokens at depth 0 count. -/
def run (K : Kws) (D : Nat → Nat) (s : Nat) : Nat → St
  | 0 => St.init
  | d + 1 => if D (s + d) = 0 then upd K (run K D s d) (s + d) else run K D s d
/-- .. ahead of token t. -/
def st (K : Kws) (D : Nat → Nat) (s t : Nat) : St := run K D s (t - s)

theorem st_start (K : Kws) (D : Nat → Nat) (s : Nat) : st K D s s = St.init := by simp [st, run]
theorem st_succ (K : Kws) (D : Nat → Nat) (s t : Nat) (h : s ≤ t) : st K D s (t + 1) = if D t = 0 then upd K (st K D s t) t else st K D s t := by
  simp only [st]
  rw [show t + 1 - s = (t - s) + 1 by omega]
  simp only [run]
  rw [show s + (t - s) = t by omega]
theorem st_vis (K : Kws) (D : Nat → Nat) (s t : Nat) (h : s ≤ t) (hd : D t = 0) : st K D s (t + 1) = upd K (st K D s t) t := by rw [st_succ K D s t h, if_pos hd]
theorem st_skip (K : Kws) (D : Nat → Nat) (s a : Nat) (h : s ≤ a) : ∀ d, (∀ u, a ≤ u → u < a + d → D u ≠ 0) → st K D s (a + d) = st K D s a
  | 0, _ => rfl
  | d + 1, hz => by
    rw [← Nat.add_assoc, st_succ K D s (a + d) (by omega), if_neg (hz (a + d) (by omega) (by omega))]
    exact st_skip K D s a h d (fun u h1 h2 => hz u h1 (by omega))
theorem upd_or (K : Kws) (σ : St) (k : Nat) (h : σ.orr = true) : (upd K σ k).orr = true := by
  unfold upd; repeat' split
  all_goals first | exact h | rfl
theorem st_or (K : Kws) (D : Nat → Nat) (s a : Nat) (h : s ≤ a) (ho : (st K D s a).orr = true) : ∀ d, (st K D s (a + d)).orr = true
  | 0 => ho
  | d + 1 => by
    have ih := st_or K D s a h ho d
    rw [← Nat.add_assoc, st_succ K D s (a + d) (by omega)]
    split
    · exact upd_or K _ _ ih
    · exact ih

/-- The terms that the cuts part. -/
def terms : Nat → List Nat → List (Nat × Nat)
  | _, [] => []
  | s, c :: r => (s, c) :: terms (c + 1) r
def nextS : Nat → List Nat → Nat
  | s, [] => s
  | _, c :: r => nextS (c + 1) r
theorem terms_snoc : ∀ (cuts : List Nat) (s k : Nat), terms s (cuts ++ [k]) = terms s cuts ++ [(nextS s cuts, k)]
  | [], s, k => rfl
  | c :: r, s, k => by simp [terms, nextS, terms_snoc r (c + 1) k]
theorem nextS_snoc : ∀ (cuts : List Nat) (s k : Nat), nextS s (cuts ++ [k]) = k + 1
  | [], s, k => rfl
  | c :: r, s, k => by simp [nextS, nextS_snoc r (c + 1) k]
theorem terms_length : ∀ (cuts : List Nat) (s : Nat), (terms s cuts).length = cuts.length
  | [], s => rfl
  | c :: r, s => by simp [terms, terms_length r (c + 1)]
theorem terms_nil (cuts : List Nat) (s : Nat) : terms s cuts = [] ↔ cuts = [] := by cases cuts <;> simp [terms]

/-- The cuts lie in order within [s, t). -/
def Inside (s t : Nat) : List Nat → Prop
  | [] => s ≤ t
  | c :: r => s ≤ c ∧ c < t ∧ Inside (c + 1) t r
theorem Inside.mono {t t' : Nat} (h : t ≤ t') : ∀ {s : Nat} {l : List Nat}, Inside s t l → Inside s t' l
  | _, [], hi => Nat.le_trans hi h
  | _, _ :: _, ⟨h1, h2, h3⟩ => ⟨h1, by omega, Inside.mono h h3⟩
theorem Inside.snoc {k : Nat} : ∀ {s : Nat} {l : List Nat}, Inside s k l → Inside s (k + 1) (l ++ [k])
  | s, [], hi => ⟨hi, by omega, Nat.le_refl _⟩
  | _, _ :: _, ⟨h1, h2, h3⟩ => ⟨h1, by omega, Inside.snoc h3⟩
theorem Inside.nextS {t : Nat} : ∀ {s : Nat} {l : List Nat}, Inside s t l → s ≤ Go.Proofs.Qxb6630155a.nextS s l ∧ Go.Proofs.Qxb6630155a.nextS s l ≤ t
  | s, [], hi => ⟨Nat.le_refl _, hi⟩
  | s, c :: r, ⟨h1, h2, h3⟩ => by
    have := Inside.nextS h3
    show s ≤ Go.Proofs.Qxb6630155a.nextS (c + 1) r ∧ Go.Proofs.Qxb6630155a.nextS (c + 1) r ≤ t
    omega
theorem Inside.length {t : Nat} : ∀ {s : Nat} {l : List Nat}, Inside s t l → s + l.length ≤ t
  | s, [], hi => hi
  | s, c :: r, ⟨h1, h2, h3⟩ => by
    have := Inside.length h3
    simp; omega

theorem st_ok (K : Kws) (D : Nat → Nat) (s : Nat) : ∀ d, Inside s (s + d) (st K D s (s + d)).cuts ∧ (st K D s (s + d)).cases ≤ d
  | 0 => by rw [Nat.add_zero, st_start]; exact ⟨Nat.le_refl _, Nat.le_refl _⟩
  | d + 1 => by
    obtain ⟨h1, h2⟩ := st_ok K D s d
    rw [← Nat.add_assoc, st_succ K D s (s + d) (by omega)]
    generalize st K D s (s + d) = σ at *
    have h3 : Inside s (s + d + 1) σ.cuts := h1.mono (by omega)
    split
    · unfold upd
      repeat' split
      all_goals first | exact ⟨h3, by omega⟩ | exact ⟨h3, by show _ ≤ d + 1; simp; omega⟩ | exact ⟨h1.snoc, by show σ.cases ≤ d + 1; omega⟩
    · exact ⟨h3, by omega⟩

/-- WHAT Conjuncts ANSWERS of the span [s, e). -/
def conj (K : Kws) (D : Nat → Nat) (s e : Nat) : List (Nat × Nat) :=
  if (st K D s e).orr = true then [(s, e)]
  else terms s (st K D s e).cuts ++ (if nextS s (st K D s e).cuts < e then [(nextS s (st K D s e).cuts, e)] else [])
end Go.Proofs.Qxb6630155a
