import Derived.Test.Qxb6630199aRead
namespace Go.Proofs.Qxb6630199a
open Go.RowKit

def ZAns (k : ByteArray) (w : World) (e : Ending) (w' : World) : Prop :=
  ∃ E i, Ends k E i ∧ Below w.heap.size w w' ∧
    (((E ≤ i ∨ i + 19 < E) ∧ e = .returned (.tuple #[.int .i64 0, .string ⟨#[]⟩, .string ⟨#[]⟩, .int .u64 0, .bool false]))
    ∨ ((i < E ∧ E ≤ i + 19) ∧ e = .returned (.tuple #[.int .i64 ((E : Int) - (i : Int)), .string (k.extract 0 i), .string (k.extract E k.size), .int .u64 (val k i (E - i) : Nat), .bool true])))

set_option maxHeartbeats 1000000 in
theorem zz_any (k : ByteArray) (w : World) (hk : k.size ≤ 1048576) : Calls Try.prog 6 #[.string k] w (ZAns k w) := by
  go_enter Try.func6, Try.ntmps6
  go_wp2_with fail
  refine (number_any k w hk).mono ?_
  rintro e' w1 ⟨E, i, hE, hB, ⟨hbad, rfl⟩ | ⟨hgood, rfl⟩⟩
  · have HE : Hid (Ends k E i ∧ (E ≤ i ∨ i + 19 < E)) := ⟨⟨hE, hbad⟩⟩
    clear hE hbad
    go_wp2_with fail
    go_quiet (fail)
    go_wp2_with fail
    refine bodyPost_ret (v := .tuple #[.int .i64 0, .string ⟨#[]⟩, .string ⟨#[]⟩, .int .u64 0, .bool false]) (by simp [results, Try.results6, go_sem]) rfl ⟨E, i, HE.out.1, ?_, Or.inl ⟨HE.out.2, rfl⟩⟩
    exact below_drewN (hB.alloc hB.size _) _
  · have HE : Hid (Ends k E i ∧ (i < E ∧ E ≤ i + 19)) := ⟨⟨hE, hgood⟩⟩
    clear hE hgood
    generalize hpr : k.extract 0 i = pr at *
    generalize hsu : k.extract E k.size = su at *
    generalize hv : val k i (E - i) = V at *
    have HP : Hid (k.extract 0 i = pr ∧ k.extract E k.size = su ∧ val k i (E - i) = V) := ⟨⟨hpr, hsu, hv⟩⟩
    clear hpr hsu hv
    go_wp2_with fail
    go_quiet (fail)
    go_wp2_with fail
    refine bodyPost_ret (v := .tuple #[.int .i64 ((E : Int) - (i : Int)), .string pr, .string su, .int .u64 (V : Nat), .bool true]) (by simp [results, Try.results6, go_sem]) rfl ⟨E, i, HE.out.1, ?_, Or.inr ⟨HE.out.2, by rw [HP.out.1, HP.out.2.1, HP.out.2.2]⟩⟩
    exact below_drewN (hB.alloc hB.size _) _
end Go.Proofs.Qxb6630199a
