import Derived.Test.Qxb6630097aReader
namespace Go.Proofs.Qxb6630097a
open Go.RowKit

/-- The sorted columns. -/
def zsOf (g : Nat → Int) (n : Nat) : List Int := (upto g n).mergeSort (fun x y => decide (x ≤ y))
def sortedG (g : Nat → Int) (n : Nat) (j : Nat) : Int := (zsOf g n)[j]?.getD 0
theorem zsOf_length (g : Nat → Int) (n : Nat) : (zsOf g n).length = n := by simp [zsOf, upto]
theorem zsOf_mem (g : Nat → Int) (n : Nat) (x : Int) : x ∈ zsOf g n ↔ ∃ i, i < n ∧ g i = x := by
  simp [zsOf, List.mem_mergeSort, upto]
theorem sortedG_at (g : Nat → Int) (n j : Nat) (hj : j < n) : (zsOf g n)[j]? = some (sortedG g n j) := by
  have h : j < (zsOf g n).length := by rw [zsOf_length]; exact hj
  simp [sortedG, h]
theorem sortedG_sorted (g : Nat → Int) (n : Nat) : Sorted (sortedG g n) n := by
  intro j hj
  have h1 : j < (zsOf g n).length := by rw [zsOf_length]; omega
  have h2 : j + 1 < (zsOf g n).length := by rw [zsOf_length]; omega
  have hp : (zsOf g n).Pairwise (fun x y => decide (x ≤ y) = true) := List.pairwise_mergeSort (fun a b c h1 h2 => by simp at *; omega) (fun a b => by simp; omega) _
  have := List.pairwise_iff_getElem.1 hp j (j + 1) h1 h2 (by omega)
  simp [sortedG, h1, h2]
  simpa using this
theorem sortedG_mem (g : Nat → Int) (n : Nat) (x : Int) : (∃ i, i < n ∧ sortedG g n i = x) ↔ ∃ i, i < n ∧ g i = x := by
  rw [← zsOf_mem g n x]
  constructor
  · rintro ⟨i, hi, e⟩
    have := sortedG_at g n i hi
    rw [e] at this
    exact List.mem_of_getElem? this
  · intro h
    obtain ⟨i, hi, e⟩ := List.mem_iff_getElem.1 h
    have hi' : i < n := by rw [zsOf_length] at hi; exact hi
    refine ⟨i, hi', ?_⟩
    have := sortedG_at g n i hi'
    rw [List.getElem?_eq_getElem hi, e] at this
    simpa using this.symm

set_option maxHeartbeats 1000000 in
set_option maxRecDepth 100000 in
theorem reader_unsorted (fb sb N b off m cap : Nat) (f : Nat → Int) (w : World) (hn : m + 1 ≤ 65536) (hN : N ≤ 65536) (hf : w.cell? ⟨fb, 1, none⟩ = some (.slice (some ⟨sb, 0, none⟩) N N)) (hfb : fb < w.heap.size) (hbb : b < w.heap.size)
    (hc : ∀ j, j < m + 1 → w.cell? ⟨b, off + j, none⟩ = some (.int .i64 (f j))) (hbf : ∀ j, j < m + 1 → 0 ≤ f j ∧ f j < (N : Int)) (hns : ¬ Sorted f (m + 1)) :
    Calls Try.prog 7 #[.pointer (some ⟨fb, 0, none⟩), .slice (some ⟨b, off, none⟩) (m + 1) cap] w fun e w' => ∃ r, e = .returned (.pointer (some ⟨r, 0, none⟩)) ∧ w.heap.size ≤ r ∧ IsReader w' r fb sb (spansOf (sortedG f (m + 1)) (m + 1)) ∧ Below w.heap.size w w' := by
  obtain ⟨i0, hi, hz0, hz1, hz2⟩ := info_parts Try.info54
  have cV : ∀ a len cap W, Calls Try.prog 17 #[.slice a len cap] W fun e w' => e = .returned (.func (.func 21) #[] #[.pointer (some ⟨W.heap.size, 0, none⟩)]) ∧ w' = W.alloc (.cells #[.slice a len cap] 23) := fun a len cap W => (callsIn_wide (n := 2)).1 (values_in Fence.wide 2 trivial rfl a len cap W)
  go_enter Try.func7, Try.ntmps7
  go_wp2_with (first
    | (go_at_call 15; refine (isSorted_any b off (m + 1) cap f _ (by omega) hc).mono ?_; rintro e w0 ⟨⟨s, rfl, hs1⟩, hq⟩; obtain rfl : s = false := by cases s; rfl; exact absurd (hs1.1 rfl) hns)
    | (go_at_call 17; refine (cV _ _ _ _).mono ?_; rintro e w' ⟨rfl, rfl⟩))
  have hb0 : Below w.heap.size w w0 := by obtain ⟨q, rfl⟩ := hq; exact ⟨rfl, rfl, rfl, Nat.le_refl _, fun _ _ => rfl⟩
  clear hq hs1
  have hB1 : Below w.heap.size w (w0.alloc (.cells #[.slice (some ⟨b, off, none⟩) (m + 1) cap] 23)) := hb0.alloc hb0.size _
  have cS := sorted_any w0.heap.size b off m cap f (w0.alloc (.cells #[.slice (some ⟨b, off, none⟩) (m + 1) cap] 23)) (by simp) (by have := hB1.size; omega) (by simp) (by omega) (fun j hj => (hB1.cell (p := ⟨b, off + j, none⟩) hbb).trans (hc j hj))
  refine cS.mono ?_
  rintro e w1 ⟨b2, cap2, rfl, hrow, hbl⟩
  have hb1 : Below w.heap.size w w1 := hB1.trans (hbl.mono hB1.size)
  have hb2 : b2 < w1.heap.size := (hrow.lt b2 rfl).2
  have hc1 : ∀ j, j < m + 1 → w1.cell? ⟨b2, 0 + j, none⟩ = some (.int .i64 (sortedG f (m + 1) j)) := by
    intro j hj
    rw [Nat.zero_add, hrow.cellAt j (by omega)]
    show ((zsOf f (m + 1)).map _)[j]? = _
    rw [List.getElem?_map, sortedG_at f (m + 1) j hj]
    rfl
  have hs := sortedG_sorted f (m + 1)
  have hbd : ∀ j, j < m + 1 → 0 ≤ sortedG f (m + 1) j ∧ sortedG f (m + 1) j < (N : Int) := by
    intro j hj
    obtain ⟨i, hi, e⟩ := (sortedG_mem f (m + 1) _).1 ⟨j, hj, rfl⟩
    rw [← e]
    exact hbf i hi
  clear cS cV hrow hbl hB1 hb0 hbf hc hns
  generalize hg : sortedG f (m + 1) = g at *
  have HG : Hid (sortedG f (m + 1) = g) := hg
  clear hg
  simp only [Nat.zero_add] at hc1
  go_wp2
  go_loopw [21] (fun i wr => ∃ k : Nat, k ≤ m + 1 ∧ i = .int .i64 k ∧ AtK w1.heap.size (.pointer (some ⟨fb, 0, none⟩)) w1 (spansOf g k) wr) (fun i _ => m + 1 - (intOf i).toNat)
  case atStart => exact ⟨0, Nat.zero_le _, rfl, atK_start w1 _⟩
  case round =>
    obtain ⟨k, hk, rfl, v, hR, hown, hb, hnil⟩ := hrel
    by_cases hlt : k < m + 1
    · have hck : wr.cell? ⟨b2, k, none⟩ = some (.int .i64 (g k)) := (hb.cell (p := ⟨b2, k, none⟩) (by show b2 < _; omega)).trans (hc1 k hlt)
      obtain ⟨hg0, hg1⟩ := hbd k hlt
      have hR1 : wr.cell? ⟨w1.heap.size, 1, none⟩ = some v := hR.cell (i := 1) (by omega)
      have HS : Hid (spansOf g (k + 1) = step (spansOf g k) (g k)) := rfl
      have hkept := kept_all hbd hs k hk
      have hlen := spansOf_length_le g k
      generalize spansOf g k = rs at *
      cases rs with
      | nil =>
        obtain rfl : v = .slice none 0 0 := hnil rfl
        clear hnil hkept
        go_wp2_with (at_builtin; refine wpList_append_own _ rfl _ _ 50 rfl (w1.heap.size + 1) 54 i0 (.agg #[.int .i64 0, .int .i64 0]) 2 16 Try.underlying50 hi hz0 hz1 hz2 rfl (by decide) _ _ _ rfl (hown.alloc _) ⟨wr.heap.size, 0, none⟩ 1 1 [.int .i64 (g k), .int .i64 (g k + 1)] rfl rfl (two_new _ _ _ _) (two_one _ _) (by simp [maxLen] <;> omega) (by simp <;> omega) (by have := hR.lt; simp; omega) ?_; intro v' w2 hown' hgrow _; obtain ⟨g', cap'', rfl⟩ := ownsRow_succ hown'; have hR2 := atK_grown hR hown hgrow; have hR3 := hR2.cell (i := 1) (by omega); have hR4 := hR2.frozen 1; have hfin := atK_append hR hown hb hgrow hown'; clear hown' hgrow hR2)
        clear hown
        go_roundw
        case rel => exact ⟨k + 1, by omega, by go_num, by rw [HS.out]; exact hfin⟩
        case measure => simp [intOf]; omega
      | cons p r =>
        obtain ⟨gb, cap', rfl⟩ := ownsRow_succ hown
        obtain ⟨q0, q1, q2, _, _⟩ := good_cons hkept.good
        have hce : wr.cell? ⟨gb, r.length * 2 + 1, none⟩ = some (.int .i64 p.2) := by
          rw [hown.cellAt _ (by omega), flat_y (p :: r) r.length (by simp)]
          simp [yOf]
        have hfe : wr.frozen? ⟨gb, r.length * 2 + 1, none⟩ = false := hown.frozenAt _
        have hrl : r.length + 1 ≤ 65536 := by simp at hlen; omega
        have HK := hkept
        clear hkept hnil hlen
        by_cases c1 : g k < p.2
        · have HS2 : Hid (spansOf g (k + 1) = p :: r) := by rw [HS.out]; simp only [step]; rw [if_pos c1]; exact rfl
          clear HS
          go_wp2
          go_roundw
          case rel => exact ⟨k + 1, by omega, by go_num, by rw [HS2.out]; exact ⟨_, hR, hown, hb, fun h => by cases h⟩⟩
          case measure => simp [intOf]; omega
        · by_cases c2 : g k = p.2
          · have HS2 : Hid (spansOf g (k + 1) = (p.1, p.2 + 1) :: r) := by rw [HS.out]; simp only [step]; rw [if_neg c1, if_pos c2]; exact rfl
            have c2b : (g k == p.2) = true := by simpa using c2
            have hfin := atK_stretch hR hown hb (p.2 + 1)
            clear HS c2 hown HK
            go_wp2
            go_roundw
            case rel => exact ⟨k + 1, by omega, by go_num, by rw [HS2.out]; exact hfin⟩
            case measure => simp [intOf]; omega
          · have HS2 : Hid (spansOf g (k + 1) = (g k, g k + 1) :: p :: r) := by rw [HS.out]; simp only [step]; rw [if_neg c1, if_neg c2]; exact rfl
            have c2b : (g k == p.2) = false := by simpa using c2
            clear HS c2
            go_wp2_with (at_builtin; refine wpList_append_own _ rfl _ _ 50 rfl (w1.heap.size + 1) 54 i0 (.agg #[.int .i64 0, .int .i64 0]) 2 16 Try.underlying50 hi hz0 hz1 hz2 rfl (by decide) _ _ _ rfl (hown.alloc _) ⟨wr.heap.size, 0, none⟩ 1 1 [.int .i64 (g k), .int .i64 (g k + 1)] rfl rfl (two_new _ _ _ _) (two_one _ _) (by simp [maxLen] <;> omega) (by simp <;> omega) (by have := hR.lt; simp; omega) ?_; intro v' w2 hown' hgrow _; obtain ⟨g', cap'', rfl⟩ := ownsRow_succ hown'; have hR2 := atK_grown hR hown hgrow; have hR3 := hR2.cell (i := 1) (by omega); have hR4 := hR2.frozen 1; have hfin := atK_append hR hown hb hgrow hown'; clear hown' hgrow hR2)
            clear hown HK
            go_roundw
            case rel => exact ⟨k + 1, by omega, by go_num, by rw [HS2.out]; exact hfin⟩
            case measure => simp [intOf]; omega
    · obtain rfl : k = m + 1 := by omega
      have hR1 : wr.cell? ⟨w1.heap.size, 1, none⟩ = some v := hR.cell (i := 1) (by omega)
      have hkept := kept_all hbd hs (m + 1) hk
      have hlen := spansOf_length_le g (m + 1)
      have hbw : Below w.heap.size w wr := hb1.trans (hb.mono hb1.size)
      generalize hrs : spansOf g (m + 1) = rs at *
      have HR : Hid (spansOf g (m + 1) = rs) := hrs
      clear hrs
      cases rs with
      | nil =>
        obtain rfl : v = .slice none 0 0 := hnil rfl
        clear hnil hkept
        go_wp2
        go_ret
        exact ⟨_, rfl, hb1.size, by rw [HG.out, HR.out]; exact isReader_of hR hown rfl (fun h => absurd h (by omega)), hbw⟩
      | cons p r =>
        obtain ⟨gb, cap', rfl⟩ := ownsRow_succ hown
        obtain ⟨q0, q1, q2, _, _⟩ := good_cons hkept.good
        have hce : wr.cell? ⟨gb, r.length * 2 + 1, none⟩ = some (.int .i64 p.2) := by
          rw [hown.cellAt _ (by omega), flat_y (p :: r) r.length (by simp)]
          simp [yOf]
        have hrl : r.length + 1 ≤ 65536 := by simp at hlen; omega
        have hff : wr.cell? ⟨fb, 1, none⟩ = some (.slice (some ⟨sb, 0, none⟩) N N) := (hbw.cell (p := ⟨fb, 1, none⟩) hfb).trans hf
        have hR2 : wr.cell? ⟨w1.heap.size, 2, none⟩ = some (.slice none 0 0) := hR.cell (i := 2) (by omega)
        have hR3 := hR.frozen 2
        obtain ⟨p1, p2⟩ := p
        obtain ⟨e, rfl⟩ : ∃ e : Nat, p2 = e := ⟨p2.toNat, by simp at q0 q1; omega⟩
        have heN : e ≤ N := by simp at q2; omega
        clear hnil hlen hkept q0 q1 q2
        go_wp2
        go_region
        go_wp2
        go_ret
        have hfin : IsReader (wr.setCell ⟨w1.heap.size, 2, none⟩ (.slice (some ⟨sb, 0, none⟩) e N)).drew w1.heap.size fb sb ((p1, (e : Int)) :: r) :=
          isReader_of (((hR.set 2 (.slice (some ⟨sb, 0, none⟩) e N)).congr (rcells_two _ _ _ _)).drew) (ownsRow_setCell_below hown (by show w1.heap.size < _; omega) _).drew rfl (fun _ => rfl)
        exact ⟨_, rfl, hb1.size, by rw [HG.out, HR.out]; exact hfin, (hbw.setCell hb1.size _).drew⟩
#print axioms reader_unsorted
end Go.Proofs.Qxb6630097a
