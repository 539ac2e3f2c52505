import Derived.Test.Qxb6630097aProg
import Derived.WalkKit
import Derived.Deep.OwnRows
namespace Go.Proofs.Qxb6630097a
open Go.RowKit

/-- zzLastEnd of an empty list. -/
theorem last_nil (a : Option Addr) (cap : Nat) (w : World) :
    Calls Try.prog 11 #[.slice a 0 cap] w fun e w' => e = .returned (.int .i64 0) ∧ w' = w := by
  go_enter Try.func11, Try.ntmps11
  go_wp2
  go_ret
  exact ⟨rfl, rfl⟩

theorem last_row (b n cap : Nat) (g : Nat → Int) (w : World) (hn : n < 1000000000) (h : w.rowIs b 3 (n + 1) fun i => .int .i64 (g i)) :
    Calls Try.prog 11 #[.slice (some ⟨b, 0, none⟩) (n + 1) cap] w fun e w' => e = .returned (.int .i64 (g n)) ∧ w' = w := by
  have hc := h.cell (i := n) (by omega)
  have h0 : (((n + 1 : Nat) : Int) == 0) = false := by simp; omega
  clear h
  go_enter Try.func11, Try.ntmps11
  go_wp2
  go_ret
  exact ⟨rfl, rfl⟩
end Go.Proofs.Qxb6630097a
