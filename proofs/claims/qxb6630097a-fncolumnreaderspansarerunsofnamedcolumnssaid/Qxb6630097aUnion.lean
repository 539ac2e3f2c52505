import Derived.Test.Qxb6630097aCalls
import Derived.Laws.CopyOwn
import Derived.Deep.Cut
import Derived.Deep.CutRange
import Derived.Deep.DeepCutAuto
namespace Go.Proofs.Qxb6630097a
open Go.RowKit

/-! ### Plain: the union's spans -/
theorem in_lt_last {N : Int} : ∀ {rs : List (Int × Int)}, Good N rs → ∀ j, In j rs → j < lastE rs
  | [], _, j, h => by obtain ⟨p, hp, _⟩ := h; cases hp
  | p :: r, h, j, hj => by
    obtain ⟨h0, h1, h2, h3, h4⟩ := good_cons h
    rcases (in_cons j p r).1 hj with ⟨a, b⟩ | ⟨q, hq, a, b⟩
    · exact b
    · have := h4 q hq; show j < p.2; omega
theorem last_in {N : Int} : ∀ {rs : List (Int × Int)}, Good N rs → lastE rs = 0 ∨ In (lastE rs - 1) rs
  | [], _ => .inl rfl
  | p :: r, h => by
    obtain ⟨h0, h1, h2, h3, h4⟩ := good_cons h
    exact .inr ((in_cons _ p r).2 (.inl ⟨by show p.1 ≤ p.2 - 1; omega, by show p.2 - 1 < p.2; omega⟩))

theorem union_last {N : Nat} {W L R : List (Int × Int)} (hW : Good N W) (hL : Good N L) (hR : Good N R) (hu : ∀ j, In j W ↔ In j L ∨ In j R) :
    lastE L ≤ lastE W ∧ lastE R ≤ lastE W ∧ (lastE W = lastE L ∨ lastE W = lastE R) := by
  have bL := lastE_le hL
  have bR := lastE_le hR
  have bW := lastE_le hW
  have a1 : lastE L ≤ lastE W := by
    rcases last_in hL with e | e
    · omega
    · have := in_lt_last hW _ ((hu _).2 (.inl e)); omega
  have a2 : lastE R ≤ lastE W := by
    rcases last_in hR with e | e
    · omega
    · have := in_lt_last hW _ ((hu _).2 (.inr e)); omega
  refine ⟨a1, a2, ?_⟩
  rcases last_in hW with e | e
  · left; omega
  · rcases (hu _).1 e with h | h
    · left; have := in_lt_last hL _ h; omega
    · right; have := in_lt_last hR _ h; omega

theorem union_in {N n k : Nat} {g : Nat → Int} {W L R : List (Int × Int)} (hk : k ≤ n) (hW : Reads N g n W) (hL : Reads N g k L) (hR : Reads N (fun j => g (k + j)) (n - k) R) (j : Int) : In j W ↔ In j L ∨ In j R := by
  rw [hW.cover, hL.cover, hR.cover]
  constructor
  · rintro ⟨i, hi, e⟩
    by_cases h : i < k
    · exact .inl ⟨i, h, e⟩
    · exact .inr ⟨i - k, by omega, by show g (k + (i - k)) = j; rw [show k + (i - k) = i by omega]; exact e⟩
  · rintro (⟨i, hi, e⟩ | ⟨i, hi, e⟩)
    · exact ⟨i, by omega, e⟩
    · exact ⟨k + i, by omega, e⟩

theorem cov_union {W L R : List (Int × Int)} (hu : ∀ j, In j W ↔ In j L ∨ In j R) (j : Nat) : cov (xOf W) (yOf W) W.length j = (cov (xOf L) (yOf L) L.length j || cov (xOf R) (yOf R) R.length j) := by
  rw [Bool.eq_iff_iff, Bool.or_eq_true, cov_in, cov_in, cov_in]
  exact hu j

/-- zzLastEnd of a reader's ends. -/
theorem last_of (eb : Nat) (rs : List (Int × Int)) (cap : Nat) (w : World) (hn : rs.length ≤ 65536) (h : w.rowIs eb 3 rs.length fun i => .int .i64 (yOf rs i)) :
    Calls Try.prog 11 #[.slice (some ⟨eb, 0, none⟩) rs.length cap] w fun e w' => e = .returned (.int .i64 (lastE rs)) ∧ w' = w := by
  cases rs with
  | nil => exact last_nil _ _ _
  | cons p r =>
    rw [lastE_eq (p :: r) r.length rfl]
    exact last_row eb r.length cap (yOf (p :: r)) w (by simp at hn; omega) h

/-! ### A slice of integers that came in, and its copy -/
def IsRow (k : IntKind) (w : World) (a : Option Addr) (len cap : Nat) (zs : List Int) : Prop :=
  (a = none ∧ len = 0 ∧ cap = 0 ∧ zs = []) ∨
  ∃ x, a = some x ∧ len ≤ cap ∧ cap ≤ maxLen ∧ zs.length = cap ∧ (∀ i, i < zs.length → w.cell? (x.add i) = some (.int k (zs.getD i 0))) ∧ ∀ n ∈ zs, (Lit.int k n).wf = true

theorem copied {K : IntKind} {z : Value} {w' : World} {g n : Nat} {t : TypeId} {zs : List Int} (hz : n ≤ zs.length) (h : w'.heap[g]? = some (.cells (splice (madeCells #[z] n).toList 0 ((zs.take n).map (Value.int K))).toArray t (0, 0))) :
    Cols K w' (some ⟨g, 0, none⟩) n (fun i => zs.getD i 0) := by
  have hl : ((zs.take n).map (Value.int K)).length = n := by simp; omega
  have e : splice (madeCells #[z] n).toList 0 ((zs.take n).map (Value.int K)) = (zs.take n).map (Value.int K) := by
    simp only [splice, List.take_zero, List.nil_append, Nat.zero_add, hl]
    rw [List.drop_eq_nil_of_le (by simp [size_madeCells]), List.append_nil]
  rw [e] at h
  intro j hj
  refine ⟨g, 0, rfl, (Array.getElem?_eq_some_iff.1 h).1, ?_⟩
  have hj2 : j < zs.length := by omega
  simp [World.cell?, h, hj, hj2]
theorem row_src {K : IntKind} {w W : World} {x : Addr} {zs : List Int} {n : Nat} (hb : Below w.heap.size w W) (hz : n ≤ zs.length) (hc : ∀ i, i < zs.length → w.cell? (x.add i) = some (.int K (zs.getD i 0))) : ∀ j v, ((zs.take n).map (Value.int K))[j]? = some v → W.cell? (x.add j) = some v := by
  intro j v hv
  have hj : j < ((zs.take n).map (Value.int K)).length := (List.getElem?_eq_some_iff.1 hv).1
  have hj2 : j < n ∧ j < zs.length := by simp at hj; omega
  have h1 := hc j hj2.2
  rw [hb.cell (World.block_lt_of_cell? w _ h1), h1]
  rw [← hv]
  simp [hj2.1, hj2.2]
end Go.Proofs.Qxb6630097a
