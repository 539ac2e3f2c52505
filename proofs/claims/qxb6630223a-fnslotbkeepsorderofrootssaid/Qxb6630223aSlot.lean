import Derived.Test.Qxb6630223aRows
import Derived.WalkKit
import Derived.ProofKit
import Derived.RegionTactic
import Derived.ChangeAlike
import Derived.BigRegion
namespace Go.Proofs.Qxb6630223a
open Go.RowKit

theorem grown_trans {a b c : World} (h1 : Grown a b) (h2 : Grown b c) : Grown a c :=
  ⟨World.keptBut_trans h1.1 (World.keptBut_mono (fun _ f => f.elim) h2.1), fun x => (h2.2.1 x).trans (h1.2.1 x), Nat.le_trans h1.2.2 h2.2.2⟩

/-- A Partition lies at block b. -/
structure At (w : World) (b : Nat) (n s z t : Int) (f l : ByteArray) : Prop where
  lt : b < w.heap.size
  c0 : w.cell? ⟨b, 0, none⟩ = some (.int .i64 n)
  c1 : w.cell? ⟨b, 1, none⟩ = some (.int .u64 s)
  c2 : w.cell? ⟨b, 2, none⟩ = some (.int .u64 z)
  c3 : w.cell? ⟨b, 3, none⟩ = some (.int .u8 t)
  c4 : w.cell? ⟨b, 4, none⟩ = some (.string f)
  c5 : w.cell? ⟨b, 5, none⟩ = some (.string l)
theorem At.alloc {w : World} {b : Nat} {n s z t : Int} {f l : ByteArray} (h : At w b n s z t f l) (O : Obj) : At (w.alloc O) b n s z t f l := by
  have := h.lt
  have e : ∀ j, (w.alloc O).cell? ⟨b, j, none⟩ = w.cell? ⟨b, j, none⟩ := fun j => World.cell?_alloc_past (hn := this) ..
  refine ⟨?_, ?_, ?_, ?_, ?_, ?_, ?_⟩
  · simp; omega
  all_goals rw [e]
  · exact h.c0
  · exact h.c1
  · exact h.c2
  · exact h.c3
  · exact h.c4
  · exact h.c5
theorem At.here (w : World) (n s z t : Int) (f l : ByteArray) (T : TypeId) : At (w.alloc (.cells #[.int .i64 n, .int .u64 s, .int .u64 z, .int .u8 t, .string f, .string l] T)) w.heap.size n s z t f l := by
  refine ⟨by simp, ?_, ?_, ?_, ?_, ?_, ?_⟩
  all_goals rw [World.cell?_alloc_at (hn := rfl)]; rfl
theorem At.grown {w w' : World} {b : Nat} {n s z t : Int} {f l : ByteArray} (h : At w b n s z t f l) (g : Grown w w') : At w' b n s z t f l := by
  have := h.lt
  have e : ∀ j, w'.cell? ⟨b, j, none⟩ = w.cell? ⟨b, j, none⟩ := fun j => g.1.cell this (fun h => h)
  refine ⟨by have := g.2.2; omega, ?_, ?_, ?_, ?_, ?_, ?_⟩
  all_goals rw [e]
  · exact h.c0
  · exact h.c1
  · exact h.c2
  · exact h.c3
  · exact h.c4
  · exact h.c5

set_option maxHeartbeats 1000000 in
theorem end_any (n s z t : Int) (f l : ByteArray) (w : World) (h0 : 0 ≤ s) (h1 : 0 ≤ z) (h2 : s + z ≤ 18446744073709551615) :
    Calls Try.prog 10 #[.agg #[.int .i64 n, .int .u64 s, .int .u64 z, .int .u8 t, .string f, .string l]] w fun e w' => e = .returned (.int .u64 (s + z)) ∧ w' = w.alloc (.cells #[.int .i64 n, .int .u64 s, .int .u64 z, .int .u8 t, .string f, .string l] 26) := by
  have hw : IntKind.u64.wrap (s + z) = s + z := IntWalk.u64_in _ (by omega)
  go_enter Try.func10, Try.ntmps10
  go_wp2
  go_ret
  exact ⟨rfl, rfl⟩

set_option maxHeartbeats 1000000 in
theorem fits_any (n s z t : Int) (f l : ByteArray) (w : World) (h0 : 0 ≤ s) (h1 : 0 ≤ z) (h2 : s + z ≤ 18446744073709551615) :
    Calls Try.prog 11 #[.agg #[.int .i64 n, .int .u64 s, .int .u64 z, .int .u8 t, .string f, .string l]] w fun e w' => e = .returned (.bool (decide (s + z ≤ 4294967296))) ∧ w' = (w.alloc (.cells #[.int .i64 n, .int .u64 s, .int .u64 z, .int .u8 t, .string f, .string l] 26)).alloc (.cells #[.int .i64 n, .int .u64 s, .int .u64 z, .int .u8 t, .string f, .string l] 26) := by
  go_enter Try.func11, Try.ntmps11
  go_wp2_with fail
  refine (end_any n s z t f l _ h0 h1 h2).mono ?_
  rintro e' w1 ⟨rfl, rfl⟩
  go_wp2
  go_ret
  exact ⟨rfl, rfl⟩

set_option maxHeartbeats 1000000 in
theorem slot_fit (n s z t : Int) (f l : ByteArray) (w : World) (q : Int) (h0 : 0 ≤ s) (h1 : 0 ≤ z) (h2 : s + z ≤ 9223372036854775808 + 536870912) (hq : (s + z + 8191) / 8192 = q) (hfit : q * 8192 + z ≤ 4294967296) :
    Calls Try.prog 6 #[.agg #[.int .i64 n, .int .u64 s, .int .u64 z, .int .u8 t, .string f, .string l]] w fun e w' => e = .returned (.tuple #[.agg #[.int .i64 3, .int .u64 (q * 8192), .int .u64 z, .int .u8 131, .string ⟨#[117, 110, 107, 110, 111, 119, 110]⟩, .string ⟨#[]⟩], .nilIface]) ∧ Grown w w' := by
  have a1 : IntKind.u64.wrap (s + z + 8192) = s + z + 8192 := IntWalk.u64_in _ (by omega)
  have a2 : IntKind.u64.wrap (s + z + 8192 - 1) = s + z + 8191 := by rw [show s + z + 8192 - 1 = s + z + 8191 by omega]; exact IntWalk.u64_in _ (by omega)
  have a3 : IntKind.u64.wrap (q * 8192) = q * 8192 := IntWalk.u64_in _ (by omega)
  have a4 : Int.tdiv (s + z + 8191) 8192 = q := by rw [Int.tdiv_eq_ediv_of_nonneg (by omega)]; exact hq
  have a5 : IntKind.u64.wrap q = q := IntWalk.u64_in _ (by omega)
  have d1 : decide (q * 8192 + z ≤ 4294967296) = true := decide_eq_true hfit
  go_enter Try.func6, Try.ntmps6
  go_wp2_with fail
  refine (end_any n s z t f l _ h0 h1 (by omega)).mono ?_
  rintro e' w1 ⟨rfl, rfl⟩
  go_wp2_with fail
  refine (fits_any 3 (q * 8192) z 131 _ _ _ (by omega) h1 (by omega)).mono ?_
  rintro e' w1 ⟨rfl, rfl⟩
  rw [d1]
  go_wp2_with fail
  refine bodyPost_ret (v := .tuple #[.agg #[.int .i64 3, .int .u64 (q * 8192), .int .u64 z, .int .u8 131, .string ⟨#[117, 110, 107, 110, 111, 119, 110]⟩, .string ⟨#[]⟩], .nilIface]) (by simp [results, Try.results6, go_sem]) rfl ⟨rfl, ?_⟩
  repeat (first | exact Grown.refl _ | apply Grown.alloc)

set_option maxHeartbeats 1000000 in
theorem slot_over (n s z t : Int) (f l : ByteArray) (w : World) (q : Int) (h0 : 0 ≤ s) (h1 : 0 ≤ z) (hz : z ≤ 4611686018427387904) (h2 : s + z ≤ 9223372036854775808 + 536870912) (hq : (s + z + 8191) / 8192 = q) (hfit : ¬ q * 8192 + z ≤ 4294967296) :
    Calls Try.prog 6 #[.agg #[.int .i64 n, .int .u64 s, .int .u64 z, .int .u8 t, .string f, .string l]] w fun e w' => ∃ b, e = .returned (.tuple #[.agg #[.int .i64 0, .int .u64 0, .int .u64 0, .int .u8 0, .string ⟨#[]⟩, .string ⟨#[]⟩], .iface 38 (.pointer (some ⟨b, 0, none⟩))]) ∧ Grown w w' ∧ At w' b 3 (q * 8192) z 131 ⟨#[117, 110, 107, 110, 111, 119, 110]⟩ ⟨#[]⟩ := by
  have a1 : IntKind.u64.wrap (s + z + 8192) = s + z + 8192 := IntWalk.u64_in _ (by omega)
  have a2 : IntKind.u64.wrap (s + z + 8192 - 1) = s + z + 8191 := by rw [show s + z + 8192 - 1 = s + z + 8191 by omega]; exact IntWalk.u64_in _ (by omega)
  have a3 : IntKind.u64.wrap (q * 8192) = q * 8192 := IntWalk.u64_in _ (by omega)
  have a4 : Int.tdiv (s + z + 8191) 8192 = q := by rw [Int.tdiv_eq_ediv_of_nonneg (by omega)]; exact hq
  have a5 : IntKind.u64.wrap q = q := IntWalk.u64_in _ (by omega)
  have d1 : decide (q * 8192 + z ≤ 4294967296) = false := decide_eq_false hfit
  go_enter Try.func6, Try.ntmps6
  go_wp2_with fail
  refine (end_any n s z t f l _ h0 h1 (by omega)).mono ?_
  rintro e' w1 ⟨rfl, rfl⟩
  go_wp2_with fail
  refine (fits_any 3 (q * 8192) z 131 _ _ _ (by omega) h1 (by omega)).mono ?_
  rintro e' w1 ⟨rfl, rfl⟩
  rw [d1]
  go_wp2_with fail
  go_region
  go_wp2
  refine bodyPost_ret (v := .tuple #[.agg #[.int .i64 0, .int .u64 0, .int .u64 0, .int .u8 0, .string ⟨#[]⟩, .string ⟨#[]⟩], .iface 38 (.pointer (some ⟨w.heap.size + 1 + 1 + 1 + 1 + 1 + 1, 0, none⟩))]) (by simp [results, Try.results6, go_sem]) rfl ⟨_, rfl, ?_, ?_⟩
  · apply Grown.drew
    repeat (first | exact Grown.refl _ | apply Grown.alloc)
  · have h := At.here (((((w.alloc (Obj.cells #[.int .i64 n, .int .u64 s, .int .u64 z, .int .u8 t, .string f, .string l] 26)).alloc (Obj.cells #[.int .i64 0, .int .u64 0, .int .u64 0, .int .u8 0, .string ⟨#[]⟩, .string ⟨#[]⟩] 26)).alloc (Obj.cells #[.int .i64 n, .int .u64 s, .int .u64 z, .int .u8 t, .string f, .string l] 26)).alloc (Obj.cells #[.int .i64 3, .int .u64 (q * 8192), .int .u64 z, .int .u8 131, .string ⟨#[117, 110, 107, 110, 111, 119, 110]⟩, .string ⟨#[]⟩] 26)).alloc (Obj.cells #[.int .i64 3, .int .u64 (q * 8192), .int .u64 z, .int .u8 131, .string ⟨#[117, 110, 107, 110, 111, 119, 110]⟩, .string ⟨#[]⟩] 26) |>.alloc (Obj.cells #[.int .i64 3, .int .u64 (q * 8192), .int .u64 z, .int .u8 131, .string ⟨#[117, 110, 107, 110, 111, 119, 110]⟩, .string ⟨#[]⟩] 26)) 3 (q * 8192) z 131 ⟨#[117, 110, 107, 110, 111, 119, 110]⟩ ⟨#[]⟩ 40
    simp at h
    exact h.grown (Grown.refl _).drew

theorem assert_nil (W : World) : (Instr.typeAssert .nilIface 28 38 true).run Try.prog W = .ok (.tuple #[.pointer none, .bool false]) W := by kernel_rfl
theorem assert_yes (W : World) (v : Value) : (Instr.typeAssert (.iface 38 v) 28 38 true).run Try.prog W = .ok (.tuple #[v, .bool true]) W := by kernel_rfl

set_option maxHeartbeats 1000000 in
theorem beyond_nil (w : World) : Calls Try.prog 7 #[.nilIface] w fun e w' => e = .returned (.tuple #[.agg #[.int .i64 0, .int .u64 0, .int .u64 0, .int .u8 0, .string ⟨#[]⟩, .string ⟨#[]⟩], .bool false]) ∧ Grown w w' := by
  have hA := assert_nil
  go_enter Try.func7, Try.ntmps7
  go_wp2
  refine bodyPost_ret (v := .tuple #[.agg #[.int .i64 0, .int .u64 0, .int .u64 0, .int .u8 0, .string ⟨#[]⟩, .string ⟨#[]⟩], .bool false]) (by simp [results, Try.results7, go_sem]) rfl ⟨rfl, ?_⟩
  repeat (first | exact Grown.refl _ | apply Grown.alloc)

set_option maxHeartbeats 1000000 in
theorem beyond_ptr (w : World) (b : Nat) (n s z t : Int) (f l : ByteArray) (h : At w b n s z t f l) : Calls Try.prog 7 #[.iface 38 (.pointer (some ⟨b, 0, none⟩))] w fun e w' => e = .returned (.tuple #[.agg #[.int .i64 n, .int .u64 s, .int .u64 z, .int .u8 t, .string f, .string l], .bool true]) ∧ Grown w w' := by
  have hA := assert_yes
  have h1 := h.alloc (.cells #[.int .i64 0, .int .u64 0, .int .u64 0, .int .u8 0, .string ⟨#[]⟩, .string ⟨#[]⟩] 26)
  obtain ⟨_, c0, c1, c2, c3, c4, c5⟩ := h1
  go_enter Try.func7, Try.ntmps7
  go_wp2
  refine bodyPost_ret (v := .tuple #[.agg #[.int .i64 n, .int .u64 s, .int .u64 z, .int .u8 t, .string f, .string l], .bool true]) (by simp [results, Try.results7, go_sem]) rfl ⟨rfl, ?_⟩
  repeat (first | exact Grown.refl _ | apply Grown.alloc)

set_option maxHeartbeats 1000000 in
theorem chk_fit (s z S : Int) (w : World) (h0 : 0 ≤ s) (h1 : 0 ≤ z) (h2 : s + z ≤ S) (h3 : S < s + z + 8192) (hm : S % 8192 = 0) (hfit : S + z ≤ 4294967296) :
    Calls Try.prog 8 #[.int .u64 s, .int .u64 z, .agg #[.int .i64 3, .int .u64 S, .int .u64 z, .int .u8 131, .string ⟨#[117, 110, 107, 110, 111, 119, 110]⟩, .string ⟨#[]⟩], .bool false, .agg #[.int .i64 0, .int .u64 0, .int .u64 0, .int .u8 0, .string ⟨#[]⟩, .string ⟨#[]⟩], .bool false] w fun e w' => e = .returned (.tuple #[.int .u64 S, .bool true]) ∧ Grown w w' := by
  have a1 : IntKind.u64.wrap (s + z) = s + z := IntWalk.u64_in _ (by omega)
  have a2 : IntKind.u64.wrap (S - (s + z)) = S - (s + z) := IntWalk.u64_in _ (by omega)
  have a3 : IntKind.u64.wrap (S + z) = S + z := IntWalk.u64_in _ (by omega)
  have a4 : Int.tmod S 8192 = 0 := by rw [Int.tmod_eq_emod_of_nonneg (by omega)]; exact hm
  go_enter Try.func8, Try.ntmps8
  go_wp2
  go_ret2
  exact ⟨rfl, by repeat (first | exact Grown.refl _ | apply Grown.alloc)⟩

set_option maxHeartbeats 1000000 in
theorem chk_over (s z S : Int) (w : World) (h0 : 0 ≤ s) (h1 : 0 ≤ z) (hz : z ≤ 4611686018427387904) (h2 : s + z ≤ S) (hS : s + z ≤ 9223372036854775808 + 536870912) (h3 : S < s + z + 8192) (hm : S % 8192 = 0) (hfit : ¬ S + z ≤ 4294967296) :
    Calls Try.prog 8 #[.int .u64 s, .int .u64 z, .agg #[.int .i64 0, .int .u64 0, .int .u64 0, .int .u8 0, .string ⟨#[]⟩, .string ⟨#[]⟩], .bool true, .agg #[.int .i64 3, .int .u64 S, .int .u64 z, .int .u8 131, .string ⟨#[117, 110, 107, 110, 111, 119, 110]⟩, .string ⟨#[]⟩], .bool true] w fun e w' => e = .returned (.tuple #[.int .u64 S, .bool true]) ∧ Grown w w' := by
  have a1 : IntKind.u64.wrap (s + z) = s + z := IntWalk.u64_in _ (by omega)
  have a2 : IntKind.u64.wrap (S - (s + z)) = S - (s + z) := IntWalk.u64_in _ (by omega)
  have a3 : IntKind.u64.wrap (S + z) = S + z := IntWalk.u64_in _ (by omega)
  have a4 : Int.tmod S 8192 = 0 := by rw [Int.tmod_eq_emod_of_nonneg (by omega)]; exact hm
  go_enter Try.func8, Try.ntmps8
  go_wp2
  go_ret2
  exact ⟨rfl, by repeat (first | exact Grown.refl _ | apply Grown.alloc)⟩

end Go.Proofs.Qxb6630223a
