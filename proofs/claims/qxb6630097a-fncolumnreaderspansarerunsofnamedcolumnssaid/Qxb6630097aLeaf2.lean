import Derived.Test.Qxb6630097aProg
import Derived.WalkKit
import Derived.WalkSpells
import Derived.WalkLawsBesides
import Derived.Deep.OwnRows
namespace Go.Proofs.Qxb6630097a
open Go.RowKit

theorem bytes4 (a0 a1 : Option Addr) (l0 c0 l1 c1 : Nat) (k : Int) (w : World) (h0 : l0 ≤ 1048576) (h1 : l0 + l1 ≤ 1048576) :
    Calls Try.prog 13 #[.slice a0 l0 c0, .slice a1 l1 c1, .int .i64 k] w fun e w' => e = .returned (.bool true) ∧ w' = w := by
  go_enter Try.func13, Try.ntmps13
  go_wp2
  go_ret
  exact ⟨rfl, rfl⟩
theorem bytes4_no (a0 a1 : Option Addr) (l0 c0 l1 c1 : Nat) (k : Int) (w : World) (h0 : l0 ≤ maxLen) (h1 : l1 ≤ maxLen) (h : ¬ l0 + l1 ≤ 1048576) :
    Calls Try.prog 13 #[.slice a0 l0 c0, .slice a1 l1 c1, .int .i64 k] w fun e w' => e = .returned (.bool false) ∧ w' = w := by
  unfold maxLen at h0 h1
  by_cases hl : l0 ≤ 1048576
  · by_cases hl1 : l1 ≤ 1048576
    · go_enter Try.func13, Try.ntmps13
      go_wp2
      go_ret
      exact ⟨rfl, rfl⟩
    · go_enter Try.func13, Try.ntmps13
      go_wp2
      go_ret
      exact ⟨rfl, rfl⟩
  · go_enter Try.func13, Try.ntmps13
    go_wp2
    go_ret
    exact ⟨rfl, rfl⟩

theorem Try.info41 : (Try.prog.info? 41).map (fun i => (i.zero, i.size, i.bytes)) = some (some (.int .u16 0), 1, 2) := by kernel_rfl
theorem Try.info3 : (Try.prog.info? 3).map (fun i => (i.zero, i.size, i.bytes)) = some (some (.int .i64 0), 1, 8) := by kernel_rfl
theorem Try.info36 : (Try.prog.info? 36).map (fun i => (i.zero, i.size, i.bytes)) = some (some (.int .u16 0), 1, 2) := by kernel_rfl
theorem Try.info4 : (Try.prog.info? 4).map (fun i => (i.zero, i.size, i.bytes)) = some (some (.bool false), 1, 1) := by kernel_rfl

theorem step_if (g : Nat → Int) (K : IntKind) (k j : Nat) {v : Value} (hv : v = .int K (g k)) : (if j = k then v else .int K (if j < k then g j else 0)) = .int K (if j < k + 1 then g j else 0) := by
  subst hv
  by_cases e : j = k
  · subst e; simp
  · rw [if_neg e]
    by_cases e2 : j < k
    · rw [if_pos e2, if_pos (by omega)]
    · rw [if_neg e2, if_neg (by omega)]

/-- ZZnewRowFormat: a new row that copies the steps, and a struct round it. -/
theorem format_any (b n cap : Nat) (g : Nat → Int) (w : World) (hn : n ≤ 1048576) (h : n ≠ 0 → w.rowIs b 36 n fun i => .int .u16 (g i)) :
    Calls Try.prog 6 #[.slice (some ⟨b, 0, none⟩) n cap] w fun e w' => e = .returned (.pointer (some ⟨w.heap.size + 1, 0, none⟩)) ∧
      w'.rowIs w.heap.size 41 n (fun i => .int .u16 (g i)) ∧ w'.cell? ⟨w.heap.size + 1, 1, none⟩ = some (.slice (some ⟨w.heap.size, 0, none⟩) n n) ∧ w'.heap.size = w.heap.size + 2 ∧ Below w.heap.size w w' := by
  have hmk := run_make_row' (P := Try.prog) 40 41 (.int .u16 0) 2 Try.underlying40 Try.info41 rfl .i64 .i64 n (by omega) (by omega)
  go_enter Try.func6, Try.ntmps6
  go_wp2
  go_loopw [4] (fun i wr => ∃ k : Nat, k ≤ n ∧ i = .int .i64 k ∧ wr.rowIs w.heap.size 41 n (fun j => .int .u16 (if j < k then g j else 0)) ∧ wr.heap.size = w.heap.size + 1 ∧ Below w.heap.size w wr)
    (fun i _ => n - (intOf i).toNat)
  case atStart => exact ⟨0, Nat.zero_le _, rfl, World.rowIs_made _ _ _ _, by simp, (Below.refl _ _).alloc (Nat.le_refl _) _⟩
  case round =>
    obtain ⟨k, hk, rfl, hrow, hsz, hb⟩ := hrel
    by_cases hlt : k < n
    · have hc : wr.cell? ⟨b, k, none⟩ = some (.int .u16 (g k)) := (hb.cell (p := ⟨b, k, none⟩) (h (by omega)).lt).trans ((h (by omega)).cell hlt)
      have hf := hrow.frozen k
      have hold := hrow.cell hlt
      go_wp2
      go_roundw
      case rel =>
        refine ⟨k + 1, by omega, by go_num, (hrow.set k _).congr ?_, by simpa using hsz, hb.setCell (Nat.le_refl _) _⟩
        intro j hj
        exact step_if _ _ _ _ rfl
      case measure => simp [intOf]; omega
    · go_wp2
      have hkn : k = n := by omega
      subst hkn
      go_ret
      refine ⟨rfl, (hrow.alloc _).congr (fun j hj => by rw [if_pos hj]), ?_, by simp [hsz], hb.alloc (by omega) _⟩
      rw [World.cell?_alloc_at (hn := hsz.symm)]
      rfl

/-- ZZspans: two new rows: the firsts and the ends. 'sp': the block of the spans (2 cells a span). -/
theorem spans_any (r sb n cap : Nat) (x y : Nat → Int) (w : World) (hn : n ≤ 1048576) (hr : w.cell? ⟨r, 1, none⟩ = some (.slice (some ⟨sb, 0, none⟩) n cap)) (hrs : r < w.heap.size) (hss : sb < w.heap.size)
    (hx : ∀ i, i < n → w.cell? ⟨sb, i * 2, none⟩ = some (.int .i64 (x i))) (hy : ∀ i, i < n → w.cell? ⟨sb, i * 2 + 1, none⟩ = some (.int .i64 (y i))) :
    Calls Try.prog 10 #[.pointer (some ⟨r, 0, none⟩)] w fun e w' => e = .returned (.tuple #[.slice (some ⟨w.heap.size, 0, none⟩) n n, .slice (some ⟨w.heap.size + 1, 0, none⟩) n n]) ∧
      w'.rowIs w.heap.size 3 n (fun i => .int .i64 (x i)) ∧ w'.rowIs (w.heap.size + 1) 3 n (fun i => .int .i64 (y i)) ∧ w'.heap.size = w.heap.size + 2 ∧ Below w.heap.size w w' := by
  have hmk := run_make_row' (P := Try.prog) 23 3 (.int .i64 0) 8 Try.underlying23 Try.info3 rfl .i64 .i64 n (by omega) (by omega)
  go_enter Try.func10, Try.ntmps10
  go_wp2
  go_loopw [6] (fun i wr => ∃ k : Nat, k ≤ n ∧ i = .int .i64 k ∧ wr.rowIs w.heap.size 3 n (fun j => .int .i64 (if j < k then x j else 0)) ∧ wr.rowIs (w.heap.size + 1) 3 n (fun j => .int .i64 (if j < k then y j else 0)) ∧ wr.heap.size = w.heap.size + 2 ∧ Below w.heap.size w wr)
    (fun i _ => n - (intOf i).toNat)
  case atStart => 
    refine ⟨0, Nat.zero_le _, rfl, (World.rowIs_made _ _ _ _).alloc _, ?_, by simp, ((Below.refl _ _).alloc (Nat.le_refl _) _).alloc (by simp) _⟩
    have := World.rowIs_made (w.alloc (.cells (madeCells #[.int .i64 0] n) 3)) (.int .i64 0) n 3
    simpa using this
  case round =>
    obtain ⟨k, hk, rfl, hrow, hrow2, hsz, hb⟩ := hrel
    have hr2 : wr.cell? ⟨r, 1, none⟩ = some (.slice (some ⟨sb, 0, none⟩) n cap) := (hb.cell (p := ⟨r, 1, none⟩) hrs).trans hr
    by_cases hlt : k < n
    · have hc : wr.cell? ⟨sb, k * 2, none⟩ = some (.int .i64 (x k)) := (hb.cell (p := ⟨sb, k * 2, none⟩) hss).trans (hx k hlt)
      have hc2 : wr.cell? ⟨sb, k * 2 + 1, none⟩ = some (.int .i64 (y k)) := (hb.cell (p := ⟨sb, k * 2 + 1, none⟩) hss).trans (hy k hlt)
      have hf := hrow.frozen k
      have hold := hrow.cell hlt
      have hf2 := hrow2.frozen k
      have hold2 := hrow2.cell hlt
      go_wp2
      go_roundw
      case rel =>
        refine ⟨k + 1, by omega, by go_num, ((hrow.set k _).setOther (by simp) _).congr ?_, ((hrow2.setOther (by simp) _).set k _).congr ?_, by simpa using hsz, (hb.setCell (Nat.le_refl _) _).setCell (by simp) _⟩
        all_goals
          intro j hj
          exact step_if _ _ _ _ rfl
      case measure => simp [intOf]; omega
    · go_wp2
      have hkn : k = n := by omega
      subst hkn
      go_ret2
      exact ⟨rfl, hrow.congr (fun j hj => by rw [if_pos hj]), hrow2.congr (fun j hj => by rw [if_pos hj]), hsz, hb⟩

/-- ZZsteps: a new row that copies the steps. -/
theorem steps_any (r : Nat) (a : Option Addr) (n cap : Nat) (g : Nat → Int) (w : World) (hn : n ≤ 1048576) (hr : w.cell? ⟨r, 2, none⟩ = some (.slice a n cap)) (hrs : r < w.heap.size)
    (hx : ∀ i, i < n → ∃ sb, a = some ⟨sb, 0, none⟩ ∧ sb < w.heap.size ∧ w.cell? ⟨sb, i, none⟩ = some (.int .u16 (g i))) :
    Calls Try.prog 12 #[.pointer (some ⟨r, 0, none⟩)] w fun e w' => e = .returned (.slice (some ⟨w.heap.size, 0, none⟩) n n) ∧
      w'.rowIs w.heap.size 36 n (fun i => .int .u16 (g i)) ∧ w'.heap.size = w.heap.size + 1 ∧ Below w.heap.size w w' := by
  have hmk := run_make_row' (P := Try.prog) 22 36 (.int .u16 0) 2 Try.underlying22 Try.info36 rfl .i64 .i64 n (by omega) (by omega)
  go_enter Try.func12, Try.ntmps12
  go_wp2
  go_loopw [4] (fun i wr => ∃ k : Nat, k ≤ n ∧ i = .int .i64 k ∧ wr.rowIs w.heap.size 36 n (fun j => .int .u16 (if j < k then g j else 0)) ∧ wr.heap.size = w.heap.size + 1 ∧ Below w.heap.size w wr)
    (fun i _ => n - (intOf i).toNat)
  case atStart => exact ⟨0, Nat.zero_le _, rfl, World.rowIs_made _ _ _ _, by simp, (Below.refl _ _).alloc (Nat.le_refl _) _⟩
  case round =>
    obtain ⟨k, hk, rfl, hrow, hsz, hb⟩ := hrel
    have hr2 : wr.cell? ⟨r, 2, none⟩ = some (.slice a n cap) := (hb.cell (p := ⟨r, 2, none⟩) hrs).trans hr
    by_cases hlt : k < n
    · obtain ⟨sb, rfl, hss, hck⟩ := hx k hlt
      have hc : wr.cell? ⟨sb, k, none⟩ = some (.int .u16 (g k)) := (hb.cell (p := ⟨sb, k, none⟩) hss).trans hck
      have hf := hrow.frozen k
      have hold := hrow.cell hlt
      go_wp2
      go_roundw
      case rel =>
        refine ⟨k + 1, by omega, by go_num, (hrow.set k _).congr ?_, by simpa using hsz, hb.setCell (Nat.le_refl _) _⟩
        intro j hj
        exact step_if _ _ _ _ rfl
      case measure => simp [intOf]; omega
    · go_wp2
      have hkn : k = n := by omega
      subst hkn
      go_ret
      exact ⟨rfl, hrow.congr (fun j hj => by rw [if_pos hj]), hsz, hb⟩
end Go.Proofs.Qxb6630097a
