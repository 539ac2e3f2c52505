import Derived.Test.Qxb6630097aIter
import Derived.Test.Qxb6630097aShelf
import Derived.Sort.OwnSortedInts
namespace Go.Proofs.Qxb6630097a
open Go.RowKit Go.Shelf Go.Sort

attribute [local go_sem] Oper.semAt_some

set_option maxHeartbeats 1000000 in
theorem collect_in (F : Fence) (n : Nat) (h19 : F.fn 19) (h23 : F.fn 23) (h21 : F.fn 21) (hro : F.round = none) (hn : 4 ≤ n) (Bs b off len cap : Nat) (g : Nat → Int) (hlen : len ≤ 1048576) (w : World) (hBs : Bs < w.heap.size) (hb : b < w.heap.size)
    (hc : w.cell? ⟨Bs, 0, none⟩ = some (.slice (some ⟨b, off, none⟩) len cap)) (hI : ∀ j, j < len → w.cell? ⟨b, off + j, none⟩ = some (.int .i64 (g j))) :
    CallsIn F n Try.prog 19 #[.func (.func 21) #[] #[.pointer (some ⟨Bs, 0, none⟩)]] w fun e W' => ∃ v, e = .returned v ∧ W'.ownsRow w.heap.size 3 1 v len ((upto g len).map (Value.int .i64)) ∧ Below w.heap.size w W' := by
  have h1 : 1 ≤ n := by omega
  refine callsIn_of_wp Try.func19 rfl h19 ?_ hro
  simp only [Try.ntmps19, List.size_toArray, List.length_cons, List.length_nil, Nat.reduceAdd, Nat.reduceSub, Array.replicate_succ, Array.replicate_zero, List.push_toArray, List.append_toArray, List.nil_append, List.cons_append]
  gi_wp2_with (gi_at_call 23; refine (appendSeq_in F (n - 1) h23 h21 hro (by omega) Bs b off len cap g hlen _ hBs hb hc hI).mono ?_; rintro e w' ⟨v, rfl, hrow, hbl⟩)
  go_ret
  exact ⟨v, rfl, hrow, hbl⟩

/-- slices.Sorted(slices.Values(s)): a new slice that holds what s holds, sorted. -/
theorem sorted_any (Bs b off len cap : Nat) (g : Nat → Int) (w : World) (hBs : Bs < w.heap.size) (hb : b < w.heap.size)
    (hc : w.cell? ⟨Bs, 0, none⟩ = some (.slice (some ⟨b, off, none⟩) (len + 1) cap)) (hlen1 : len + 1 ≤ 1048576) (hI : ∀ j, j < len + 1 → w.cell? ⟨b, off + j, none⟩ = some (.int .i64 (g j))) :
    Calls Try.prog 16 #[.func (.func 21) #[] #[.pointer (some ⟨Bs, 0, none⟩)]] w fun e W' => ∃ g' cap', e = .returned (.slice (some ⟨g', 0, none⟩) (len + 1) cap') ∧ W'.ownsRow w.heap.size 3 1 (.slice (some ⟨g', 0, none⟩) (len + 1) cap') (len + 1) (((upto g (len + 1)).mergeSort (fun x y => decide (x ≤ y))).map (Value.int .i64)) ∧ Below w.heap.size w W' := by
  refine (callsIn_wide (n := 6)).1 ?_
  have cC := collect_in Fence.wide 5 trivial trivial trivial rfl (by omega) Bs b off (len + 1) cap g hlen1 w hBs hb hc hI
  have hfC : Fence.wide.fn 19 := trivial
  have hfS : Fence.wide.fn 20 := trivial
  refine callsIn_of_wp Try.func16 rfl trivial ?_ rfl
  simp only [Try.ntmps16, List.size_toArray, List.length_cons, List.length_nil, Nat.reduceAdd, Nat.reduceSub, Array.replicate_succ, Array.replicate_zero, List.push_toArray, List.append_toArray, List.nil_append, List.cons_append]
  gi_wp2_with (gi_at_call 19; refine cC.mono ?_; rintro e w' ⟨v, rfl, hrow, hbl⟩; obtain ⟨g', cap', rfl⟩ := ownsRow_succ hrow)
  obtain ⟨cur, hbase, hblk, h1, h2, h3, h4⟩ : ∃ cur, w.heap.size ≤ g' ∧ w'.heap[g']? = some (.cells cur 3 (0, 0)) ∧ len + 1 ≤ cap' ∧ cap' ≤ maxLen ∧ cur.size = cap' * 1 ∧ cur.toList.take ((len + 1) * 1) = (upto g (len + 1)).map (Value.int .i64) := by
    rcases hrow.2 with ⟨e, _⟩ | ⟨g2, cap2, cur, e, r⟩
    · cases e
    · cases e; exact ⟨cur, r⟩
  have hS := Try.slices_Sort_int g' 0 cap' (upto g (len + 1)) w' (holds_of_blockI hblk (by rw [upto_length]; simpa using h4)) (Array.getElem?_eq_some_iff.1 hblk).1 (by rw [upto_length]; omega)
  rw [upto_length] at hS
  have hfin := fun nn os => ownsRow_sortedI (n := nn) (os := os) (ss := upto g (len + 1)) (ts := (upto g (len + 1)).mergeSort fun x y => decide (x ≤ y)) (by simp) hbase hblk (by rw [upto_length]; exact h1) h2 h3
  simp only [upto_length] at hfin
  refine (callsIn_wide.2 hS).mono ?_
  rintro e w2 ⟨rfl, nn, os, rfl⟩
  gi_wp2
  go_ret
  exact ⟨g', cap', rfl, hfin nn os, hbl.grown (grownBy_sortedI _) hbl.size (fun k e => by cases e; exact hbase)⟩
#print axioms sorted_any
end Go.Proofs.Qxb6630097a
