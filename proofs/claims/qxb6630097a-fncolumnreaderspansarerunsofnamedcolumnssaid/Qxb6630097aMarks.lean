import Derived.Test.Qxb6630097aProg
import Derived.WalkKit
import Derived.WalkSpells
import Derived.WalkLawsBesides
import Derived.Deep.OwnRows
namespace Go.Proofs.Qxb6630097a
open Go.RowKit

theorem Try.info4' : (Try.prog.info? 4).map (fun i => (i.zero, i.size, i.bytes)) = some (some (.bool false), 1, 1) := by kernel_rfl

/-- Is j in one of the first k spans [x i, y i)? -/
def cov (x y : Nat → Int) (k : Nat) (j : Nat) : Bool := decide (∃ i, i < k ∧ x i ≤ (j : Int) ∧ (j : Int) < y i)
/-- The end of the span before the k-th. -/
def pe (y : Nat → Int) : Nat → Int
  | 0 => -1
  | k + 1 => y k
/-- Spans in order, a gap between any two, within [0, N]. -/
def WF (x y : Nat → Int) (m : Nat) (N : Nat) : Prop := ∀ i, i < m → 0 ≤ x i ∧ x i < y i ∧ y i ≤ (N : Int) ∧ pe y i < x i

theorem cov_zero (x y : Nat → Int) (j : Nat) : cov x y 0 j = false := by simp [cov]
theorem cov_succ (x y : Nat → Int) (k j : Nat) : cov x y (k + 1) j = (cov x y k j || (decide (x k ≤ (j : Int)) && decide ((j : Int) < y k))) := by
  rw [Bool.eq_iff_iff]
  simp only [cov, decide_eq_true_eq, Bool.or_eq_true, Bool.and_eq_true]
  constructor
  · rintro ⟨i, hi, h1, h2⟩
    by_cases e : i = k
    · subst e; exact .inr ⟨h1, h2⟩
    · exact .inl ⟨i, by omega, h1, h2⟩
  · rintro (⟨i, hi, h⟩ | h)
    · exact ⟨i, by omega, h⟩
    · exact ⟨k, by omega, h⟩

theorem mark_start (x y : Nat → Int) (k j : Nat) : cov x y k j = (cov x y k j || (decide (x k ≤ (j : Int)) && decide ((j : Int) < x k))) := by
  have : (decide (x k ≤ (j : Int)) && decide ((j : Int) < x k)) = false := by
    rw [Bool.and_eq_false_iff]; simp only [decide_eq_false_iff_not]; omega
  rw [this, Bool.or_false]
theorem mark_step (x y : Nat → Int) (k : Nat) (c : Nat) (j : Nat) (hc : x k ≤ (c : Int)) :
    (if j = c then Value.bool true else .bool (cov x y k j || (decide (x k ≤ (j : Int)) && decide ((j : Int) < (c : Int))))) = .bool (cov x y k j || (decide (x k ≤ (j : Int)) && decide ((j : Int) < ((c + 1 : Nat) : Int)))) := by
  by_cases e : j = c
  · subst e
    rw [if_pos rfl]
    simp; omega
  · rw [if_neg e]
    have : decide ((j : Int) < (c : Int)) = decide ((j : Int) < ((c + 1 : Nat) : Int)) := by rw [decide_eq_decide]; omega
    rw [this]

set_option maxHeartbeats 400000 in
theorem marks_any (fb eb m cap1 cap2 N : Nat) (x y : Nat → Int) (w : World) (hm : m ≤ 1048576) (hN : N ≤ 1048576) (hwf : WF x y m N)
    (hf : w.rowIs fb 3 m fun i => .int .i64 (x i)) (he : w.rowIs eb 3 m fun i => .int .i64 (y i)) :
    Calls Try.prog 14 #[.slice (some ⟨fb, 0, none⟩) m cap1, .slice (some ⟨eb, 0, none⟩) m cap2, .int .i64 N] w fun e w' => e = .returned (.tuple #[.slice (some ⟨w.heap.size, 0, none⟩) N N, .bool true]) ∧
      w'.rowIs w.heap.size 4 N (fun j => .bool (cov x y m j)) ∧ w'.heap.size = w.heap.size + 1 ∧ Below w.heap.size w w' := by
  have hmk := run_make_row' (P := Try.prog) 30 4 (.bool false) 1 Try.underlying30 Try.info4' rfl .i64 .i64 N (by omega) (by omega)
  go_enter Try.func14, Try.ntmps14
  go_wp2
  go_loopw [9, 10, 11, 12, 13] (fun p i _ _ _ wr => ∃ k : Nat, k ≤ m ∧ i = .int .i64 k ∧ p = .int .i64 (pe y k) ∧ wr.rowIs w.heap.size 4 N (fun j => .bool (cov x y k j)) ∧ wr.heap.size = w.heap.size + 1 ∧ Below w.heap.size w wr)
    (fun _ i _ _ _ _ => m - (intOf i).toNat)
  case atStart => exact ⟨0, Nat.zero_le _, rfl, rfl, (World.rowIs_made _ _ _ _).congr (fun j _ => by rw [cov_zero]), by simp, (Below.refl _ _).alloc (Nat.le_refl _) _⟩
  case round =>
    obtain ⟨k, hk, rfl, rfl, hrow, hsz, hb⟩ := hrel
    by_cases hlt : k < m
    · have hc : wr.cell? ⟨fb, k, none⟩ = some (.int .i64 (x k)) := (hb.cell (p := ⟨fb, k, none⟩) hf.lt).trans (hf.cell hlt)
      have hc2 : wr.cell? ⟨eb, k, none⟩ = some (.int .i64 (y k)) := (hb.cell (p := ⟨eb, k, none⟩) he.lt).trans (he.cell hlt)
      obtain ⟨q0, q1, q2, q3⟩ := hwf k hlt
      go_wp2
      go_loopw [13] (fun c wi => ∃ d : Nat, x k ≤ (d : Int) ∧ (d : Int) ≤ y k ∧ c = .int .i64 d ∧ wi.rowIs w.heap.size 4 N (fun j => .bool (cov x y k j || (decide (x k ≤ (j : Int)) && decide ((j : Int) < (d : Int))))) ∧ wi.heap.size = w.heap.size + 1 ∧ Below w.heap.size w wi)
        (fun c _ => ((y k) - intOf c).toNat)
      case atStart =>
        obtain ⟨d, hd⟩ := Int.eq_ofNat_of_zero_le q0
        refine ⟨d, by omega, by omega, by rw [hd], hrow.congr (fun j _ => ?_), hsz, hb⟩
        rw [← hd, ← mark_start]
      case round =>
        obtain ⟨d, hd1, hd2, rfl, hrow3, hsz3, hb3⟩ := hrel
        by_cases hld : (d : Int) < y k
        · have hfz := hrow3.frozen d
          have hold := hrow3.cell (i := d) (by omega)
          go_wp2
          go_roundw
          case rel => exact ⟨d + 1, by omega, by omega, by go_num, (hrow3.set d _).congr (fun j _ => mark_step x y k d j hd1), by simpa using hsz3, hb3.setCell (Nat.le_refl _) _⟩
          case measure => simp [intOf]; omega
        · have hdy : (d : Int) = y k := by omega
          go_wp2
          go_roundw
          case rel => exact ⟨k + 1, by omega, by go_num, rfl, hrow3.congr (fun j _ => by rw [cov_succ, hdy]), hsz3, hb3⟩
          case measure => simp [intOf]; omega
    · go_wp2
      have hkn : k = m := by omega
      subst hkn
      go_ret2
      exact ⟨rfl, hrow, hsz, hb⟩
end Go.Proofs.Qxb6630097a
