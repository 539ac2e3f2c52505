import Derived.Test.Qxb6630097aProg
import Derived.WalkKit
import Derived.WalkSpells
import Derived.WalkLawsBesides
import Derived.Deep.OwnRows
import Derived.Deep.QuietTactic
import Derived.BigQuiet
namespace Go.Proofs.Qxb6630097a
open Go.RowKit

theorem less_any (x y : Int) (w : World) : Calls Try.prog 18 #[.int .i64 x, .int .i64 y] w fun e w' => e = .returned (.bool (decide (x < y))) ∧ w' = w := by
  have h1 : (x != x) = false := by simp
  go_enter Try.func18, Try.ntmps18
  go_wp2
  go_ret
  exact ⟨rfl, rfl⟩

/-- g is sorted on [0, n). -/
def Sorted (g : Nat → Int) (n : Nat) : Prop := ∀ j, j + 1 < n → g j ≤ g (j + 1)

def SortedAns (g : Nat → Int) (n : Nat) (e : Ending) : Prop := ∃ s : Bool, e = .returned (.bool s) ∧ (s = true ↔ Sorted g n)

theorem isSorted_any (b off n cap : Nat) (g : Nat → Int) (w : World) (hn : n ≤ 1048576) (hc : ∀ j, j < n → w.cell? ⟨b, off + j, none⟩ = some (.int .i64 (g j))) :
    Calls Try.prog 15 #[.slice (some ⟨b, off, none⟩) n cap] w fun e w' => SortedAns g n e ∧ ∃ nq, w' = w.drewN nq := by
  go_enter Try.func15, Try.ntmps15
  go_wp2
  go_loopw [3] (fun i wr => ∃ z : Int, -1 ≤ z ∧ z < n ∧ i = .int .i64 z ∧ (∀ j : Nat, z ≤ (j : Int) → j + 1 < n → g j ≤ g (j + 1)) ∧ ∃ nq, wr = w.drewN nq) (fun i _ => (intOf i).toNat)
  case atStart => exact ⟨(n : Int) - 1, by omega, by omega, rfl, fun j h1 h2 => by omega, 0, rfl⟩
  case round =>
    obtain ⟨z, hz1, hz2, rfl, hs, hnq⟩ := hrel
    by_cases hp : 0 < z
    · obtain ⟨k, rfl⟩ : ∃ k : Nat, z = (k : Int) + 1 := ⟨(z - 1).toNat, by omega⟩
      have c1 : wr.cell? ⟨b, off + (k + 1), none⟩ = some (.int .i64 (g (k + 1))) := by obtain ⟨q, rfl⟩ := hnq; exact hc (k + 1) (by omega)
      have c0 : wr.cell? ⟨b, off + k, none⟩ = some (.int .i64 (g k)) := by obtain ⟨q, rfl⟩ := hnq; exact hc k (by omega)
      have hk : (k : Int) + 1 < (n : Int) := by omega
      have hk0 : (k : Int) < (n : Int) := by omega
      have hwk : IntKind.i64.wrap (k : Int) = (k : Int) := IntWalk.i64_in _ (by omega)
      have hkp : (0 : Int) ≤ (k : Int) + 1 := by omega
      have HQ : Hid (∃ nq, wr = w.drewN nq) := hnq
      clear hnq
      by_cases hl : g (k + 1) < g k
      · go_wp2
        go_quiet ((go_at_call 18; exact Calls.quiet_of_same (less_any _ _ _)))
        go_wp2
        go_ret
        obtain ⟨q, rfl⟩ := HQ
        exact ⟨⟨false, rfl, by simp; intro h; have := h k (by omega); omega⟩, _, World.drewN_drewN _ _ _⟩
      · go_wp2
        go_quiet ((go_at_call 18; exact Calls.quiet_of_same (less_any _ _ _)))
        go_wp2
        go_roundw
        case rel =>
          obtain ⟨q, rfl⟩ := HQ
          refine ⟨(k : Int), by omega, by omega, rfl, ?_, _, World.drewN_drewN _ _ _⟩
          intro j hj1 hj2
          by_cases e : j = k
          · subst e; omega
          · exact hs j (by omega) hj2
        case measure => simp [intOf]
    · go_wp2
      go_ret
      refine ⟨⟨true, rfl, ?_⟩, hnq⟩
      simp only [true_iff]
      intro j hj
      exact hs j (by omega) hj
end Go.Proofs.Qxb6630097a
