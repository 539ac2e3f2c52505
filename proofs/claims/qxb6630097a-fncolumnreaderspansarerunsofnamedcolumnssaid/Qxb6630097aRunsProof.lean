/- Proof of 'Rows.FnColumnReaderSpansAreRunsOfNamedColumnsSaid': the frame is the guide's (proof-skeleton.mjs); the walk is in Qxb6630097aWalkR. -/
import Derived.Test.Qxb6630097aRows
import Derived.Test.Qxb6630097aWalkR
import Derived.WalkKit
import Derived.ProofKit
import Derived.OpenShut
import Derived.ShutString
import Derived.ChangeOld
import Derived.Below
namespace Go.Proofs.Qxb6630097a.fnColumnReaderSpansAreRunsOfNamedColumns
open Go.ChangeShapes Go.WideShapes Go.ChangeAt Go.RowKit
open Go.ChangeMaps (open_string shut_string)
set_option linter.unusedVariables false

set_option maxRecDepth 100000 in
theorem runs_bytes (a0 a1 : Option Addr) (l0 c0 l1 c1 : Nat) (w : World) (h0 : l0 ≤ maxLen) (h1 : l1 ≤ maxLen) (h : ¬ l0 + l1 ≤ 1048576) :
    Calls Try.prog 3 #[.slice a0 l0 c0, .slice a1 l1 c1] w fun e w' => e = .returned (.bool true) ∧ Below w.heap.size w w' := by
  go_enter Try.func3, Try.ntmps3
  go_wp2_with (go_at_call 5; refine (bytes3_no _ _ _ _ _ _ _ h0 h1 h).mono ?_; rintro e w' ⟨rfl, rfl⟩)
  go_ret
  exact ⟨rfl, Below.refl _ _⟩
set_option maxRecDepth 100000 in
theorem runs_len0 (a0 a1 : Option Addr) (l0 c0 l1 c1 : Nat) (w : World) (h : l0 + l1 ≤ 1048576) (h0 : 65536 < l0) :
    Calls Try.prog 3 #[.slice a0 l0 c0, .slice a1 l1 c1] w fun e w' => e = .returned (.bool true) ∧ Below w.heap.size w w' := by
  go_enter Try.func3, Try.ntmps3
  go_wp2_with (go_at_call 5; refine (bytes3 _ _ _ _ _ _ _ (by omega) h).mono ?_; rintro e w' ⟨rfl, rfl⟩)
  go_ret
  exact ⟨rfl, Below.refl _ _⟩
set_option maxRecDepth 100000 in
theorem runs_len1 (a0 a1 : Option Addr) (l0 c0 l1 c1 : Nat) (w : World) (h0 : l0 ≤ 65536) (h : l0 + l1 ≤ 1048576) (h1 : 65536 < l1) :
    Calls Try.prog 3 #[.slice a0 l0 c0, .slice a1 l1 c1] w fun e w' => e = .returned (.bool true) ∧ Below w.heap.size w w' := by
  go_enter Try.func3, Try.ntmps3
  go_wp2_with (go_at_call 5; refine (bytes3 _ _ _ _ _ _ _ (by omega) h).mono ?_; rintro e w' ⟨rfl, rfl⟩)
  go_ret
  exact ⟨rfl, Below.refl _ _⟩

theorem own : ownKnob Try.prog.godebug = none := by kernel_rfl
theorem laidOut : laidOutB Try.prog = true := by kernel_rfl

/-! ### STEP 1: THE WALK: the Go text returns true, AND WRITES NOTHING THAT WAS THERE: 'Below w.heap.size w w'' (Derived/Below.lean: '.refl', '.alloc', '.drew', '.setCell' at a new block, '.trans'). Open each 'IsRow' by 'rcases' AHEAD of 'go_enter'; part every test ahead of the walk. -/
theorem walk (a0 : Option Addr) (len0 cap0 : Nat) (z0 : List Int) (a1 : Option Addr) (len1 cap1 : Nat) (z1 : List Int) (w : World) (w0 : IsRow .u16 w a0 len0 cap0 z0) (w1 : IsRow .i64 w a1 len1 cap1 z1) :
    Calls Try.prog 3 #[.slice a0 len0 cap0, .slice a1 len1 cap1] w fun e w' => e = .returned (.bool true) ∧ Below w.heap.size w w' := by
  have hz0 : len0 ≤ maxLen := by
    rcases w0 with ⟨_, rfl, _⟩ | ⟨x, _, h1, h2, _⟩
    · exact Nat.zero_le _
    · omega
  have hz1 : len1 ≤ maxLen := by
    rcases w1 with ⟨_, rfl, _⟩ | ⟨x, _, h1, h2, _⟩
    · exact Nat.zero_le _
    · omega
  by_cases hb : len0 + len1 ≤ 1048576
  · by_cases h0 : len0 ≤ 65536
    · by_cases h1 : len1 ≤ 65536
      · exact runs_main a0 len0 cap0 z0 a1 len1 cap1 z1 w w0 w1 h0 h1
      · exact runs_len1 a0 a1 len0 cap0 len1 cap1 w h0 hb (by omega)
    · exact runs_len0 a0 a1 len0 cap0 len1 cap1 w hb (by omega)
  · exact runs_bytes a0 a1 len0 cap0 len1 cap1 w hz0 hz1 hb

/-! ### THE ROW's STEP: WRITTEN OUT: LEAVE IT -/
set_option maxRecDepth 100000 in
theorem lifted (os : Os) (started : os.Started) (H : Type) (enc : TypeId × Value → H) :
    ReturnsInHanded {} Try.checked os 3 .any (Rows.fnColumnReaderSpansAreRunsOfNamedColumnsSpec.pre6 enc Try.prog Try.f3 Rows.fnColumnReaderSpansAreRunsOfNamedColumnsRow.domain false) (Rows.fnColumnReaderSpansAreRunsOfNamedColumnsSpec.post enc Try.prog Try.f3 false true false false) := by
  refine returnsInHanded_of_change (C := Try.checked) own started (by kernel_rfl) Try.func3
    (ChangeSpec.witness6 (enc := enc) (C := Try.checked) false ⟨#[], #[.slice none 0 0, .slice none 0 0], []⟩ 8 (by kernel_rfl) (by kernel_rfl) (by kernel_rfl) (by kernel_rfl)) ?_
  intro W base args ds gs before hval0 hW hcnd _
  have hval : ∀ (j : Nat) t v, Try.f3.params[j]? = some t → args[j]? = some v → Value.okWide Try.prog W .any base t v := hval0
  have hW' := hW
  obtain ⟨p, q, hA0, hV, rfl, hfz, hnd⟩ := hW
  have hA : DataW.TrodAll enc Try.prog W 0 (fun _ => true) true Try.f3.params.toList args.toList ds p := hA0
  rw [Try.params3] at hA hval
  obtain ⟨v0, vs0, d0, ds0, p0, q0, hargs, rfl, rfl, h0, r0⟩ := trodAll_cons hA
  obtain ⟨v1, vs1, d1, ds1, p1, q1, rfl, rfl, rfl, h1, r1⟩ := trodAll_cons r0
  obtain ⟨rfl, rfl, rfl⟩ := trodAll_nil r1
  obtain rfl : args = #[v0, v1] := by cases args; simp_all
  obtain ⟨rfl, rfl⟩ := trodVars_none hV
  obtain ⟨a0, len0, cap0, rfl⟩ := okWide_slice Try.underlying22 (hval 0 22 v0 rfl rfl)
  have k0 := h0
  have lt0 : ∀ x ∈ p0, x.block < W.heap.size := by obtain ⟨m, hm⟩ := k0; exact DataW.trod_lt m _ _ _ hm
  obtain ⟨z0, w0⟩ : ∃ zs, IsRow .u16 W a0 len0 cap0 zs := by
    obtain ⟨fuel, hf⟩ := h0
    rcases open_ints Try.underlying22 Try.underlying36 (by kernel_rfl) hf with ⟨hcs, _⟩ | ⟨x, l, c, zs, hcs, _, hl, hm, hz, _, hcell, hwz⟩
    · simp [Value.cells] at hcs
      obtain ⟨rfl, rfl, rfl⟩ := hcs
      exact ⟨[], .inl ⟨rfl, rfl, rfl, rfl⟩⟩
    · simp [Value.cells] at hcs
      obtain ⟨rfl, rfl, rfl⟩ := hcs
      exact ⟨zs, .inr ⟨_, rfl, hl, hm, by simpa using hz, hcell, hwz⟩⟩
  obtain ⟨a1, len1, cap1, rfl⟩ := okWide_slice Try.underlying23 (hval 1 23 v1 rfl rfl)
  have k1 := h1
  have lt1 : ∀ x ∈ p1, x.block < W.heap.size := by obtain ⟨m, hm⟩ := k1; exact DataW.trod_lt m _ _ _ hm
  obtain ⟨z1, w1⟩ : ∃ zs, IsRow .i64 W a1 len1 cap1 zs := by
    obtain ⟨fuel, hf⟩ := h1
    rcases open_ints Try.underlying23 Try.underlying3 (by kernel_rfl) hf with ⟨hcs, _⟩ | ⟨x, l, c, zs, hcs, _, hl, hm, hz, _, hcell, hwz⟩
    · simp [Value.cells] at hcs
      obtain ⟨rfl, rfl, rfl⟩ := hcs
      exact ⟨[], .inl ⟨rfl, rfl, rfl, rfl⟩⟩
    · simp [Value.cells] at hcs
      obtain ⟨rfl, rfl, rfl⟩ := hcs
      exact ⟨zs, .inr ⟨_, rfl, hl, hm, by simpa using hz, hcell, hwz⟩⟩
  clear hA0 hval0
  refine (walk a0 len0 cap0 z0 a1 len1 cap1 z1 W w0 w1).mono fun e W' ⟨he, bel⟩ => ?_
  subst he
  exact ⟨_, rfl, _, _, _, [], _, [], hW', trodAll_mk1 (shut_bool Try.underlying4 _), (trodAll_cons_mk (Below.trod laidOut (by kernel_rfl) (of_decide_eq_true (by kernel_rfl)) k0 bel lt0) (trodAll_cons_mk (Below.trod laidOut (by kernel_rfl) (of_decide_eq_true (by kernel_rfl)) k1 bel lt1) trodAll_mk0)), rfl, bel.frame _, fun h => by cases h⟩

theorem over : Rows.fnColumnReaderSpansAreRunsOfNamedColumnsRow.holds Try.pinned (OpenSpec.ofChange Rows.fnColumnReaderSpansAreRunsOfNamedColumnsSpec) :=
  OpenClaim.holds_of_wide 3 Try.f3 rfl rfl rfl rfl rfl rfl rfl ⟨rfl, rfl, rfl, rfl, rfl⟩ rfl rfl rfl rfl rfl (by kernel_rfl) Try.func3 (by kernel_rfl)
    (of_decide_eq_true (by kernel_rfl)) (by unfold Func.isWrapper; first | (rw [if_pos (by decide +kernel)]; kernel_rfl) | (rw [if_neg (by decide +kernel)]; exact ⟨rfl, rfl⟩))
    (fun os started H enc _ => lifted os started H enc)

/-- ████ THE STATEMENT ████ -/
theorem proved : Rows.FnColumnReaderSpansAreRunsOfNamedColumnsSaid := over
end Go.Proofs.Qxb6630097a.fnColumnReaderSpansAreRunsOfNamedColumns
namespace Go.Proofs.Qxb6630097a
/-- The statement, in the seat's own namespace. -/
theorem spansAreRunsOfNamedColumns : Rows.FnColumnReaderSpansAreRunsOfNamedColumnsSaid := fnColumnReaderSpansAreRunsOfNamedColumns.proved
#print axioms spansAreRunsOfNamedColumns
end Go.Proofs.Qxb6630097a
