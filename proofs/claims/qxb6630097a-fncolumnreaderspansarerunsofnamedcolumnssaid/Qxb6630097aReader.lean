import Derived.Test.Qxb6630097aSpans
import Derived.Test.Qxb6630097aSorted
import Derived.Test.Qxb6630097aIsSorted
import Derived.WalkKit
import Derived.WalkSpells
import Derived.WalkLawsBesides
import Derived.Deep.OwnRows
import Derived.Maps.AppendAt
import Derived.RegionTactic
import Derived.BigRegion
namespace Go.Proofs.Qxb6630097a
open Go.RowKit

theorem Try.info54 : (Try.prog.info? 54).map (fun i => (i.zero, i.size, i.bytes)) = some (some (.agg #[.int .i64 0, .int .i64 0]), 2, 16) := by kernel_rfl

/-- The three cells of a reader. -/
def rcells (f v s : Value) : Nat → Value
  | 0 => f
  | 1 => v
  | _ => s

/-- THE LOOP's WORD: the reader lies at R, its spans those of the first k columns. -/
def AtK (R : Nat) (f : Value) (w1 : World) (rs : List (Int × Int)) (wr : World) : Prop :=
  ∃ v, wr.rowIs R 52 3 (rcells f v (.slice none 0 0)) ∧ wr.ownsRow (R + 1) 54 2 v rs.length (flat rs) ∧ Below R w1 wr ∧ (rs = [] → v = .slice none 0 0)

theorem atK_start (w1 : World) (f : Value) : AtK w1.heap.size f w1 [] (w1.alloc (.cells #[f, .slice none 0 0, .slice none 0 0] 52)) :=
  ⟨.slice none 0 0, World.rowIs_alloc w1 _ 52 _ (fun i hi => by match i, hi with | 0, _ => rfl | 1, _ => rfl | 2, _ => rfl), World.ownsRow_nil _ _ _ _, (Below.refl _ _).alloc (Nat.le_refl _) _, fun _ => rfl⟩

theorem atK_grown {R : Nat} {f : Value} {rs : List (Int × Int)} {wr w2 : World} {v : Value} {O : Obj} (hR : wr.rowIs R 52 3 (rcells f v (.slice none 0 0))) (hown : wr.ownsRow (R + 1) 54 2 v rs.length (flat rs))
    (hg : (wr.alloc O).grownBy w2 v.ownBlock) : w2.rowIs R 52 3 (rcells f v (.slice none 0 0)) := by
  have hlt := hR.lt
  refine (hR.alloc O).of_block (hg.block R (by simp; omega) ?_)
  intro e
  have := (hown.lt R e.symm).1
  omega
theorem atK_append {R : Nat} {f : Value} {w1 : World} {rs : List (Int × Int)} {wr w2 : World} {v v' : Value} {O : Obj} {c : Int} (hR : wr.rowIs R 52 3 (rcells f v (.slice none 0 0))) (hown : wr.ownsRow (R + 1) 54 2 v rs.length (flat rs)) (hb : Below R w1 wr)
    (hg : (wr.alloc O).grownBy w2 v.ownBlock) (hown' : w2.ownsRow (R + 1) 54 2 v' (rs.length + 1) (flat rs ++ [.int .i64 c, .int .i64 (c + 1)])) : AtK R f w1 ((c, c + 1) :: rs) (w2.setCell ⟨R, 1, none⟩ v') := by
  have hlt := hR.lt
  have h2 := atK_grown hR hown hg
  refine ⟨v', (h2.set 1 v').congr ?_, ownsRow_setCell_below hown' (by show R < R + 1; omega) _, ?_, fun h => by cases h⟩
  · intro j hj
    match j, hj with
    | 0, _ => rfl
    | 1, _ => rfl
    | 2, _ => rfl
  · exact ((hb.alloc (by omega) O).grown hg (by simp; omega) (fun k e => by have := (hown.lt k e).1; omega)).setCell (Nat.le_refl _) _
theorem atK_stretch {R : Nat} {f : Value} {w1 : World} {p : Int × Int} {r : List (Int × Int)} {wr : World} {gb cap : Nat} (hR : wr.rowIs R 52 3 (rcells f (.slice (some ⟨gb, 0, none⟩) (r.length + 1) cap) (.slice none 0 0))) (hown : wr.ownsRow (R + 1) 54 2 (.slice (some ⟨gb, 0, none⟩) (r.length + 1) cap) (r.length + 1) (flat (p :: r))) (hb : Below R w1 wr) (e : Int) :
    AtK R f w1 ((p.1, e) :: r) (wr.setCell ⟨gb, r.length * 2 + 1, none⟩ (.int .i64 e)) := by
  obtain ⟨h1, _⟩ := hown.stored (r.length * 2 + 1) (.int .i64 e)
  have hlt := (hown.lt gb rfl).1
  rw [flat_set] at h1
  exact ⟨_, hR.setOther (by show R ≠ gb; omega) _, h1, hb.setCell (by show R ≤ gb; omega) _, fun h => by cases h⟩

/-- WHAT NewColumnReader HANDS BACK: a reader at r of the format at fb, whose steps lie at sb: 'rs': its spans, the last first. -/
structure IsReader (w : World) (r fb sb : Nat) (rs : List (Int × Int)) : Prop where
  lt : r < w.heap.size
  c0 : w.cell? ⟨r, 0, none⟩ = some (.pointer (some ⟨fb, 0, none⟩))
  c1 : ∃ a cap, w.cell? ⟨r, 1, none⟩ = some (.slice a rs.length cap) ∧ ∀ i, i < rs.length → ∃ gb, a = some ⟨gb, 0, none⟩ ∧ gb < w.heap.size ∧ w.cell? ⟨gb, i * 2, none⟩ = some (.int .i64 (xOf rs i)) ∧ w.cell? ⟨gb, i * 2 + 1, none⟩ = some (.int .i64 (yOf rs i))
  c2 : ∃ a n cap, w.cell? ⟨r, 2, none⟩ = some (.slice a n cap) ∧ (n : Int) = lastE rs ∧ (0 < n → a = some ⟨sb, 0, none⟩)

theorem isReader_of {wr : World} {R fb sb n c : Nat} {a : Option Addr} {v : Value} {base : Nat} {rs : List (Int × Int)} (hR : wr.rowIs R 52 3 (rcells (.pointer (some ⟨fb, 0, none⟩)) v (.slice a n c)))
    (hown : wr.ownsRow base 54 2 v rs.length (flat rs)) (hn : (n : Int) = lastE rs) (ha : 0 < n → a = some ⟨sb, 0, none⟩) : IsReader wr R fb sb rs := by
  refine ⟨hR.lt, hR.cell (i := 0) (by omega), ?_, ⟨a, n, c, hR.cell (i := 2) (by omega), hn, ha⟩⟩
  rcases hown.2 with ⟨rfl, h0⟩ | ⟨gb, cap, cur, rfl, r⟩
  · have e := hR.cell (i := 1) (by omega)
    rw [h0]
    exact ⟨none, 0, e, fun i hi => absurd hi (by omega)⟩
  · refine ⟨_, _, hR.cell (i := 1) (by omega), fun i hi => ⟨gb, rfl, (hown.lt gb rfl).2, ?_, ?_⟩⟩
    · rw [hown.cellAt _ (by omega), flat_x rs i hi]
    · rw [hown.cellAt _ (by omega), flat_y rs i hi]

theorem rcells_two (f v s s' : Value) : ∀ i, i < 3 → (if i = 2 then s' else rcells f v s i) = rcells f v s' i := by
  intro i hi
  match i, hi with
  | 0, _ => rfl
  | 1, _ => rfl
  | 2, _ => rfl

theorem two_new (w : World) (x y : Value) (t : TypeId) : ∀ j u, [x, y][j]? = some u → (w.alloc (.cells #[x, y] t)).cell? ((⟨w.heap.size, 0, none⟩ : Addr).add j) = some u := by
  intro j u hj
  match j, hj with
  | 0, hj => simp at hj; subst hj; simp [Addr.add]
  | 1, hj => simp at hj; subst hj; simp [Addr.add]
theorem two_one (x y : Int) : ∀ u ∈ [Value.int .i64 x, Value.int .i64 y], u.oneCell' = true := by
  intro u hu
  simp at hu
  rcases hu with rfl | rfl <;> rfl

set_option maxHeartbeats 1000000 in
set_option maxRecDepth 100000 in
theorem reader_sorted (fb sb N b off n cap : Nat) (g : Nat → Int) (w : World) (hn : n ≤ 65536) (hN : N ≤ 65536) (hf : w.cell? ⟨fb, 1, none⟩ = some (.slice (some ⟨sb, 0, none⟩) N N)) (hfb : fb < w.heap.size) (hbb : b < w.heap.size)
    (hc : ∀ j, j < n → w.cell? ⟨b, off + j, none⟩ = some (.int .i64 (g j))) (hbd : ∀ j, j < n → 0 ≤ g j ∧ g j < (N : Int)) (hs : Sorted g n) :
    Calls Try.prog 7 #[.pointer (some ⟨fb, 0, none⟩), .slice (some ⟨b, off, none⟩) n cap] w fun e w' => ∃ r, e = .returned (.pointer (some ⟨r, 0, none⟩)) ∧ w.heap.size ≤ r ∧ IsReader w' r fb sb (spansOf g n) ∧ Below w.heap.size w w' := by
  obtain ⟨i0, hi, hz0, hz1, hz2⟩ := info_parts Try.info54
  go_enter Try.func7, Try.ntmps7
  go_wp2_with (go_at_call 15; refine (isSorted_any b off n cap g _ (by omega) hc).mono ?_; rintro e w1 ⟨⟨s, rfl, hs1⟩, hq⟩; obtain rfl : s = true := hs1.2 hs)
  have hb1 : Below w.heap.size w w1 := by obtain ⟨q, rfl⟩ := hq; exact ⟨rfl, rfl, rfl, Nat.le_refl _, fun _ _ => rfl⟩
  have hsz1 : w1.heap.size = w.heap.size := by obtain ⟨q, rfl⟩ := hq; rfl
  clear hq hs1
  have hc1 : ∀ j, j < n → w1.cell? ⟨b, off + j, none⟩ = some (.int .i64 (g j)) := fun j hj => (hb1.cell (p := ⟨b, off + j, none⟩) hbb).trans (hc j hj)
  clear hsz1
  go_wp2
  go_loopw [21] (fun i wr => ∃ k : Nat, k ≤ n ∧ i = .int .i64 k ∧ AtK w1.heap.size (.pointer (some ⟨fb, 0, none⟩)) w1 (spansOf g k) wr) (fun i _ => n - (intOf i).toNat)
  case atStart => exact ⟨0, Nat.zero_le _, rfl, atK_start w1 _⟩
  case round =>
    obtain ⟨k, hk, rfl, v, hR, hown, hb, hnil⟩ := hrel
    by_cases hlt : k < n
    · have hck : wr.cell? ⟨b, off + k, none⟩ = some (.int .i64 (g k)) := (hb.cell (p := ⟨b, off + k, none⟩) (by have := hb1.size; show b < _; omega)).trans (hc1 k hlt)
      obtain ⟨hg0, hg1⟩ := hbd k hlt
      have hR1 : wr.cell? ⟨w1.heap.size, 1, none⟩ = some v := hR.cell (i := 1) (by omega)
      have HS : Hid (spansOf g (k + 1) = step (spansOf g k) (g k)) := rfl
      have hkept := kept_all hbd hs k hk
      have hlen := spansOf_length_le g k
      generalize spansOf g k = rs at *
      cases rs with
      | nil =>
        obtain rfl : v = .slice none 0 0 := hnil rfl
        clear hnil hkept
        go_wp2_with (at_builtin; refine wpList_append_own _ rfl _ _ 50 rfl (w1.heap.size + 1) 54 i0 (.agg #[.int .i64 0, .int .i64 0]) 2 16 Try.underlying50 hi hz0 hz1 hz2 rfl (by decide) _ _ _ rfl (hown.alloc _) ⟨wr.heap.size, 0, none⟩ 1 1 [.int .i64 (g k), .int .i64 (g k + 1)] rfl rfl (two_new _ _ _ _) (two_one _ _) (by simp [maxLen] <;> omega) (by simp <;> omega) (by have := hR.lt; simp; omega) ?_; intro v' w2 hown' hgrow _; obtain ⟨g', cap'', rfl⟩ := ownsRow_succ hown'; have hR2 := atK_grown hR hown hgrow; have hR3 := hR2.cell (i := 1) (by omega); have hR4 := hR2.frozen 1; have hfin := atK_append hR hown hb hgrow hown'; clear hown' hgrow hR2)
        clear hown
        go_roundw
        case rel => exact ⟨k + 1, by omega, by go_num, by rw [HS.out]; exact hfin⟩
        case measure => simp [intOf]; omega
      | cons p r =>
        obtain ⟨gb, cap', rfl⟩ := ownsRow_succ hown
        obtain ⟨q0, q1, q2, _, _⟩ := good_cons hkept.good
        have hce : wr.cell? ⟨gb, r.length * 2 + 1, none⟩ = some (.int .i64 p.2) := by
          rw [hown.cellAt _ (by omega), flat_y (p :: r) r.length (by simp)]
          simp [yOf]
        have hfe : wr.frozen? ⟨gb, r.length * 2 + 1, none⟩ = false := hown.frozenAt _
        have hrl : r.length + 1 ≤ 65536 := by simp at hlen; omega
        have HK := hkept
        clear hkept hnil hlen
        by_cases c1 : g k < p.2
        · have HS2 : Hid (spansOf g (k + 1) = p :: r) := by rw [HS.out]; simp only [step]; rw [if_pos c1]; exact rfl
          clear HS
          go_wp2
          go_roundw
          case rel => exact ⟨k + 1, by omega, by go_num, by rw [HS2.out]; exact ⟨_, hR, hown, hb, fun h => by cases h⟩⟩
          case measure => simp [intOf]; omega
        · by_cases c2 : g k = p.2
          · have HS2 : Hid (spansOf g (k + 1) = (p.1, p.2 + 1) :: r) := by rw [HS.out]; simp only [step]; rw [if_neg c1, if_pos c2]; exact rfl
            have c2b : (g k == p.2) = true := by simpa using c2
            have hfin := atK_stretch hR hown hb (p.2 + 1)
            clear HS c2 hown HK
            go_wp2
            go_roundw
            case rel => exact ⟨k + 1, by omega, by go_num, by rw [HS2.out]; exact hfin⟩
            case measure => simp [intOf]; omega
          · have HS2 : Hid (spansOf g (k + 1) = (g k, g k + 1) :: p :: r) := by rw [HS.out]; simp only [step]; rw [if_neg c1, if_neg c2]; exact rfl
            have c2b : (g k == p.2) = false := by simpa using c2
            clear HS c2
            go_wp2_with (at_builtin; refine wpList_append_own _ rfl _ _ 50 rfl (w1.heap.size + 1) 54 i0 (.agg #[.int .i64 0, .int .i64 0]) 2 16 Try.underlying50 hi hz0 hz1 hz2 rfl (by decide) _ _ _ rfl (hown.alloc _) ⟨wr.heap.size, 0, none⟩ 1 1 [.int .i64 (g k), .int .i64 (g k + 1)] rfl rfl (two_new _ _ _ _) (two_one _ _) (by simp [maxLen] <;> omega) (by simp <;> omega) (by have := hR.lt; simp; omega) ?_; intro v' w2 hown' hgrow _; obtain ⟨g', cap'', rfl⟩ := ownsRow_succ hown'; have hR2 := atK_grown hR hown hgrow; have hR3 := hR2.cell (i := 1) (by omega); have hR4 := hR2.frozen 1; have hfin := atK_append hR hown hb hgrow hown'; clear hown' hgrow hR2)
            clear hown HK
            go_roundw
            case rel => exact ⟨k + 1, by omega, by go_num, by rw [HS2.out]; exact hfin⟩
            case measure => simp [intOf]; omega
    · obtain rfl : k = n := by omega
      have hR1 : wr.cell? ⟨w1.heap.size, 1, none⟩ = some v := hR.cell (i := 1) (by omega)
      have hkept := kept_all hbd hs k hk
      have hlen := spansOf_length_le g k
      have hbw : Below w.heap.size w wr := hb1.trans (hb.mono hb1.size)
      generalize hrs : spansOf g k = rs at *
      have HR : Hid (spansOf g k = rs) := hrs
      clear hrs
      cases rs with
      | nil =>
        obtain rfl : v = .slice none 0 0 := hnil rfl
        clear hnil hkept
        go_wp2
        go_ret
        exact ⟨_, rfl, hb1.size, by rw [HR.out]; exact isReader_of hR hown rfl (fun h => absurd h (by omega)), hbw⟩
      | cons p r =>
        obtain ⟨gb, cap', rfl⟩ := ownsRow_succ hown
        obtain ⟨q0, q1, q2, _, _⟩ := good_cons hkept.good
        have hce : wr.cell? ⟨gb, r.length * 2 + 1, none⟩ = some (.int .i64 p.2) := by
          rw [hown.cellAt _ (by omega), flat_y (p :: r) r.length (by simp)]
          simp [yOf]
        have hrl : r.length + 1 ≤ 65536 := by simp at hlen; omega
        have hff : wr.cell? ⟨fb, 1, none⟩ = some (.slice (some ⟨sb, 0, none⟩) N N) := (hbw.cell (p := ⟨fb, 1, none⟩) hfb).trans hf
        have hR2 : wr.cell? ⟨w1.heap.size, 2, none⟩ = some (.slice none 0 0) := hR.cell (i := 2) (by omega)
        have hR3 := hR.frozen 2
        obtain ⟨p1, p2⟩ := p
        obtain ⟨e, rfl⟩ : ∃ e : Nat, p2 = e := ⟨p2.toNat, by simp at q0 q1; omega⟩
        have heN : e ≤ N := by simp at q2; omega
        clear hnil hlen hkept q0 q1 q2
        go_wp2
        go_region
        go_wp2
        go_ret
        have hfin : IsReader (wr.setCell ⟨w1.heap.size, 2, none⟩ (.slice (some ⟨sb, 0, none⟩) e N)).drew w1.heap.size fb sb ((p1, (e : Int)) :: r) :=
          isReader_of (((hR.set 2 (.slice (some ⟨sb, 0, none⟩) e N)).congr (rcells_two _ _ _ _)).drew) (ownsRow_setCell_below hown (by show w1.heap.size < _; omega) _).drew rfl (fun _ => rfl)
        exact ⟨_, rfl, hb1.size, by rw [HR.out]; exact hfin, (hbw.setCell hb1.size _).drew⟩
#print axioms reader_sorted
end Go.Proofs.Qxb6630097a
