/- Proof of 'Rows.FnConjunctsMatchesCutModelSaid': the frame after the guide's skeleton for slices, at a slice of structs. -/
import Derived.Test.Qxb6630155aRows
import Derived.Test.Qxb6630155aMatch
import Derived.WalkKit
import Derived.ProofKit
import Derived.OpenShut
import Derived.ShutString
import Derived.ChangeOld
import Derived.Below
import Derived.Deep.Slices
import Derived.Deep.Strs
namespace Go.Proofs.Qxb6630155a.fnConjunctsMatchesCutModel
open Go.ChangeShapes Go.WideShapes Go.ChangeAt Go.RowKit
open Go.ChangeMaps (open_string shut_string)
set_option linter.unusedVariables false

theorem own : ownKnob Try.prog.godebug = none := by kernel_rfl
theorem laidOut : laidOutB Try.prog = true := by kernel_rfl
theorem cells25 : Try.prog.cellsOf 25 = 3 := by kernel_rfl
theorem cells3 : Try.prog.cellsOf 3 = 1 := by kernel_rfl
theorem cells9 : Try.prog.cellsOf 9 = 1 := by kernel_rfl

/-- The walk. -/
theorem walk (a : Option Addr) (n c : Nat) (kd : Nat → Int) (tx : Nat → ByteArray) (ps : Nat → Int) (s e : Int) (w : World) (hn : n ≤ maxLen) (ht : ∀ i, i < n → (tx i).size ≤ maxLen) (hT : IsToks w a n kd tx ps) :
    Calls Try.prog 3 #[.slice a n c, .int .i64 s, .int .i64 e] w fun e w' => e = .returned (.bool true) ∧ Below w.heap.size w w' := by
  by_cases h0 : e ≤ s
  · exact match_empty a n c kd tx ps s e w hn ht hT h0 trivial
  · by_cases h1 : s < 0
    · exact match_neg a n c kd tx ps s e w hn ht hT (by omega) h1
    · by_cases h2 : e ≤ (n : Int)
      · exact match_main a n c kd tx ps s e w hn ht hT (by omega) ⟨by omega, h2⟩
      · exact match_over a n c kd tx ps s e w hn ht hT (by omega) ⟨by omega, by omega⟩

/-- A slice of tokens, opened. -/
theorem open_toks {H : Type} {enc : TypeId × Value → H} {W : World} {fuel : Nat} {a : Option Addr} {n c : Nat} {x : DataW H × List MemPlace} (h : DataW.trod enc Try.prog W 0 (fun _ => true) true fuel 22 [.slice a n c] = some x) :
    ∃ kd tx ps, IsToks W a n kd tx ps ∧ n ≤ maxLen ∧ ∀ i, i < n → (tx i).size ≤ maxLen := by
  rcases Go.Deep.open_slice Try.underlying22 h with ⟨hcs, _⟩ | ⟨y, l, c', m, n', D, Pl, hcs, _, hl, hm, hmm, _, hx⟩
  · simp at hcs
    obtain ⟨rfl, rfl, rfl⟩ := hcs
    exact ⟨fun _ => 0, fun _ => ByteArray.empty, fun _ => 0, fun i hi => absurd hi (by omega), Nat.zero_le _, fun i hi => absurd hi (by omega)⟩
  · simp at hcs
    obtain ⟨rfl, rfl, rfl⟩ := hcs
    have hnm : n ≤ m := by rw [hmm]; simp; exact hl
    have each : ∀ i, i < n → ∃ q : Int × ByteArray × Int, W.cell? (y.add (i * 3)) = some (.int .i64 q.1) ∧ W.cell? (y.add (i * 3 + 1)) = some (.string q.2.1) ∧ W.cell? (y.add (i * 3 + 2)) = some (.int .i64 q.2.2) ∧ q.2.1.size ≤ maxLen := by
      intro i hi
      obtain ⟨cs', h1, h2⟩ := hx i (by omega)
      rw [cells25] at h1
      obtain ⟨_, hlen, hcell⟩ := World.cells?_some h1
      obtain ⟨y0, y1, y2, k, _, _, g0, g1, g2⟩ := Go.Deep.trod_struct3 Try.underlying25 h2
      match cs', hlen with
      | [v0, v1, v2], _ =>
        simp only [cells3, cells9] at g0 g1 g2
        obtain ⟨z0, e0, _, _⟩ := DataW.trod_int Try.underlying3 g0
        obtain ⟨z1, e1, _, hs⟩ := DataW.trod_string Try.underlying9 g1
        obtain ⟨z2, e2, _, _⟩ := DataW.trod_int Try.underlying3 g2
        have c0 := hcell 0 (by omega)
        have c1 := hcell 1 (by omega)
        have c2 := hcell 2 (by omega)
        rw [Go.Deep.add_add] at c0 c1 c2
        simp at e0 e1 e2 c0 c1 c2
        subst e0 e1 e2
        exact ⟨(z0, z1, z2), c0, c1, c2, hs⟩
    obtain ⟨q, hq⟩ := Go.Deep.choose_lt each
    refine ⟨fun i => (q i).1, fun i => (q i).2.1, fun i => (q i).2.2, fun i hi => ?_, by omega, fun i hi => (hq i hi).2.2.2⟩
    obtain ⟨h0, h1, h2, _⟩ := hq i hi
    obtain ⟨b, off, spot⟩ := y
    have hspot : spot = none := by simpa [Addr.add] using World.cell?_spot (hq 0 (by omega)).1
    subst hspot
    refine ⟨b, off, rfl, ?_, ?_, ?_, ?_⟩
    · have := World.block_lt_of_cell? W _ h0
      rw [add_plain] at this
      exact this
    · rw [add_plain] at h0; exact h0
    · rw [add_plain] at h1; exact h1
    · rw [add_plain] at h2; exact h2

set_option maxRecDepth 100000 in
theorem lifted (os : Os) (started : os.Started) (H : Type) (enc : TypeId × Value → H) :
    ReturnsInHanded {} Try.checked os 3 .any (Rows.fnConjunctsMatchesCutModelSpec.pre6 enc Try.prog Try.f3 Rows.fnConjunctsMatchesCutModelRow.domain false) (Rows.fnConjunctsMatchesCutModelSpec.post enc Try.prog Try.f3 false true false false) := by
  refine returnsInHanded_of_change (C := Try.checked) own started (by kernel_rfl) Try.func3
    (ChangeSpec.witness6 (enc := enc) (C := Try.checked) false ⟨#[], #[.slice none 0 0, .int .i64 0, .int .i64 0], []⟩ 8 (by kernel_rfl) (by kernel_rfl) (by kernel_rfl) (by kernel_rfl)) ?_
  intro W base args ds gs before hval0 hW hcnd _
  have hval : ∀ (j : Nat) t v, Try.f3.params[j]? = some t → args[j]? = some v → Value.okWide Try.prog W .any base t v := hval0
  have hW' := hW
  obtain ⟨p, q, hA0, hV, rfl, hfz, hnd⟩ := hW
  have hA : DataW.TrodAll enc Try.prog W 0 (fun _ => true) true Try.f3.params.toList args.toList ds p := hA0
  rw [Try.params3] at hA hval
  obtain ⟨v0, vs0, d0, ds0, p0, q0, hargs, rfl, rfl, h0, r0⟩ := trodAll_cons hA
  obtain ⟨v1, vs1, d1, ds1, p1, q1, rfl, rfl, rfl, h1, r1⟩ := trodAll_cons r0
  obtain ⟨v2, vs2, d2, ds2, p2, q2, rfl, rfl, rfl, h2, r2⟩ := trodAll_cons r1
  obtain ⟨rfl, rfl, rfl⟩ := trodAll_nil r2
  obtain rfl : args = #[v0, v1, v2] := by cases args; simp_all
  obtain ⟨rfl, rfl⟩ := trodVars_none hV
  obtain ⟨a0, len0, cap0, rfl⟩ := okWide_slice Try.underlying22 (hval 0 22 v0 rfl rfl)
  have k0 := h0
  have lt0 : ∀ x ∈ p0, x.block < W.heap.size := by obtain ⟨m, hm⟩ := k0; exact DataW.trod_lt m _ _ _ hm
  obtain ⟨kd, tx, ps, hT, hn, ht⟩ : ∃ kd tx ps, IsToks W a0 len0 kd tx ps ∧ len0 ≤ maxLen ∧ ∀ i, i < len0 → (tx i).size ≤ maxLen := by
    obtain ⟨fuel, hf⟩ := h0
    exact open_toks (by simpa [Value.cells] using hf)
  obtain ⟨a1, rfl, rfl, rfl, w1⟩ := open_int Try.underlying3 (hval 1 3 v1 rfl rfl) h1
  obtain ⟨a2, rfl, rfl, rfl, w2⟩ := open_int Try.underlying3 (hval 2 3 v2 rfl rfl) h2
  clear hA0 hval0
  refine (walk a0 len0 cap0 kd tx ps a1 a2 W hn ht hT).mono fun e W' ⟨he, bel⟩ => ?_
  subst he
  exact ⟨_, rfl, _, _, _, [], _, [], hW', trodAll_mk1 (shut_bool Try.underlying4 _), (trodAll_cons_mk (Below.trod laidOut (by kernel_rfl) (of_decide_eq_true (by kernel_rfl)) k0 bel lt0) (trodAll_cons_mk (shut_int Try.underlying3 w1) (trodAll_cons_mk (shut_int Try.underlying3 w2) trodAll_mk0))), rfl, bel.frame _, fun h => by cases h⟩

theorem over : Rows.fnConjunctsMatchesCutModelRow.holds Try.pinned (OpenSpec.ofChange Rows.fnConjunctsMatchesCutModelSpec) :=
  OpenClaim.holds_of_wide 3 Try.f3 rfl rfl rfl rfl rfl rfl rfl ⟨rfl, rfl, rfl, rfl, rfl⟩ rfl rfl rfl rfl rfl (by kernel_rfl) Try.func3 (by kernel_rfl)
    (of_decide_eq_true (by kernel_rfl)) (by unfold Func.isWrapper; first | (rw [if_pos (by decide +kernel)]; kernel_rfl) | (rw [if_neg (by decide +kernel)]; exact ⟨rfl, rfl⟩))
    (fun os started H enc _ => lifted os started H enc)

theorem proved : Rows.FnConjunctsMatchesCutModelSaid := over
end Go.Proofs.Qxb6630155a.fnConjunctsMatchesCutModel
namespace Go.Proofs.Qxb6630155a
/-- The statement, in the seat's own namespace. -/
theorem conjunctsMatchesCutModelProved : Rows.FnConjunctsMatchesCutModelSaid := fnConjunctsMatchesCutModel.proved
#print axioms conjunctsMatchesCutModelProved
end Go.Proofs.Qxb6630155a
