import Derived.Test.Qxb6630155aWords
import Derived.Test.Qxb6630155aSkip
import Derived.Test.Qxb6630155aPlain
import Derived.Maps.AppendAt
import Derived.RangeFuncBox
namespace Go.Proofs.Qxb6630155a
open Go.RowKit

theorem Try.info31 : (Try.prog.info? 31).map (fun i => (i.zero, i.size, i.bytes)) = some (some (.agg #[.int .i64 0, .int .i64 0]), 2, 16) := by kernel_rfl

/-- The keywords of the tokens, as Token.Is tells them. -/
def kws (kd : Nat → Int) (tx : Nat → ByteArray) : Kws :=
  { cs := fun i => isB (kd i) (tx i) ⟨#[67, 65, 83, 69]⟩
    en := fun i => isB (kd i) (tx i) ⟨#[69, 78, 68]⟩
    orr := fun i => isB (kd i) (tx i) ⟨#[79, 82]⟩
    bt := fun i => isB (kd i) (tx i) ⟨#[66, 69, 84, 87, 69, 69, 78]⟩
    an := fun i => isB (kd i) (tx i) ⟨#[65, 78, 68]⟩ }

/-- The cells of a list of spans. -/
def flatS : List (Nat × Nat) → List Value
  | [] => []
  | p :: r => .int .i64 (p.1 : Int) :: .int .i64 (p.2 : Int) :: flatS r
theorem flatS_append : ∀ (a b : List (Nat × Nat)), flatS (a ++ b) = flatS a ++ flatS b
  | [], b => rfl
  | p :: r, b => by simp [flatS, flatS_append r b]
theorem flatS_length : ∀ a : List (Nat × Nat), (flatS a).length = a.length * 2
  | [] => rfl
  | p :: r => by simp [flatS, flatS_length r]; omega

theorem ownsRow_below {w w' : World} {base : Nat} {e : TypeId} {size : Nat} {v : Value} {n : Nat} {xs : List Value} (h : w.ownsRow base e size v n xs) (hb : Below w.heap.size w w') : w'.ownsRow base e size v n xs := by
  refine ⟨h.1, ?_⟩
  rcases h.2 with h2 | ⟨g, cap, cur, hv, hg, hh, r⟩
  · exact .inl h2
  · exact .inr ⟨g, cap, cur, hv, hg, (hb.block g (Array.getElem?_eq_some_iff.1 hh).1).trans hh, r⟩

/-- THE WORLD IN A ROUND OF Conjuncts: the span's box at B, the token's at T, the terms owned beyond. -/
structure Cj (w0 : World) (B T : Nat) (s e : Nat) (k p : Int) (t : ByteArray) (v : Value) (L : List (Nat × Nat)) (w : World) : Prop where
  bt : B < T
  lt : T < w.heap.size
  s0 : w.cell? ⟨B, 0, none⟩ = some (.int .i64 (s : Int))
  s1 : w.cell? ⟨B, 1, none⟩ = some (.int .i64 (e : Int))
  t0 : w.cell? ⟨T, 0, none⟩ = some (.int .i64 k)
  t1 : w.cell? ⟨T, 1, none⟩ = some (.string t)
  t2 : w.cell? ⟨T, 2, none⟩ = some (.int .i64 p)
  own : w.ownsRow (B + 1) 31 2 v L.length (flatS L)
  bel : Below B w0 w
theorem Cj.below {w0 : World} {B T s e : Nat} {k p : Int} {t : ByteArray} {v : Value} {L : List (Nat × Nat)} {w w' : World} (h : Cj w0 B T s e k p t v L w) (hb : Below w.heap.size w w') : Cj w0 B T s e k p t v L w' := by
  have hs := hb.size
  have hT := h.lt
  have hB := h.bt
  exact ⟨hB, by omega, (hb.cell (p := ⟨B, 0, none⟩) (by show B < _; omega)).trans h.s0, (hb.cell (p := ⟨B, 1, none⟩) (by show B < _; omega)).trans h.s1, (hb.cell (p := ⟨T, 0, none⟩) hT).trans h.t0, (hb.cell (p := ⟨T, 1, none⟩) hT).trans h.t1, (hb.cell (p := ⟨T, 2, none⟩) hT).trans h.t2,
    ownsRow_below h.own hb, h.bel.trans (hb.mono (by omega))⟩
/-- .. between two rounds. -/
structure Cb (w0 : World) (B : Nat) (s e : Nat) (v : Value) (L : List (Nat × Nat)) (w : World) : Prop where
  lt : B < w.heap.size
  s0 : w.cell? ⟨B, 0, none⟩ = some (.int .i64 (s : Int))
  s1 : w.cell? ⟨B, 1, none⟩ = some (.int .i64 (e : Int))
  own : w.ownsRow (B + 1) 31 2 v L.length (flatS L)
  bel : Below B w0 w
  nil : v = .slice none 0 0 ↔ L = []
theorem Cb.token {w0 : World} {B s e : Nat} {v : Value} {L : List (Nat × Nat)} {w : World} (h : Cb w0 B s e v L w) (k p : Int) (t : ByteArray) : Cj w0 B w.heap.size s e k p t v L (w.alloc (.cells #[.int .i64 k, .string t, .int .i64 p] 36)) := by
  have hlt := h.lt
  refine ⟨hlt, by simp, ?_, ?_, ?_, ?_, ?_, h.own.alloc _, h.bel.alloc (by omega) _⟩
  · rw [World.cell?_alloc_past (hn := hlt)]; exact h.s0
  · rw [World.cell?_alloc_past (hn := hlt)]; exact h.s1
  all_goals rw [World.cell?_alloc_at (hn := rfl)]; rfl
theorem Cj.back {w0 : World} {B T s e : Nat} {k p : Int} {t : ByteArray} {v : Value} {L : List (Nat × Nat)} {w : World} (h : Cj w0 B T s e k p t v L w) (hn : v = .slice none 0 0 ↔ L = []) : Cb w0 B s e v L w :=
  ⟨by have := h.lt; have := h.bt; omega, h.s0, h.s1, h.own, h.bel, hn⟩

theorem ownsRow_base_lower {W : World} {base base' : Nat} {e : TypeId} {size : Nat} {v : Value} {k : Nat} {xs : List Value} (h : W.ownsRow base e size v k xs) (hb : base' ≤ base) : W.ownsRow base' e size v k xs := by
  refine ⟨h.1, ?_⟩
  rcases h.2 with h2 | ⟨g, cap, cur, hv, hg, r⟩
  · exact .inl h2
  · exact .inr ⟨g, cap, cur, hv, by omega, r⟩
theorem two_new (w : World) (x y : Value) (t : TypeId) : ∀ j u, [x, y][j]? = some u → (w.alloc (.cells #[x, y] t)).cell? ((⟨w.heap.size, 0, none⟩ : Addr).add j) = some u := by
  intro j u hj
  match j, hj with
  | 0, hj => simp at hj; subst hj; simp [Addr.add]
  | 1, hj => simp at hj; subst hj; simp [Addr.add]
theorem two_one (x y : Int) : ∀ u ∈ [Value.int .i64 x, Value.int .i64 y], u.oneCell' = true := by
  intro u hu
  simp at hu
  rcases hu with rfl | rfl <;> rfl
theorem Cb.appended {w0 : World} {B s e : Nat} {v v' : Value} {L : List (Nat × Nat)} {w w' : World} {O : Obj} {x y : Nat} (hlt : B < w.heap.size) (s0 : w.cell? ⟨B, 0, none⟩ = some (.int .i64 (s : Int))) (s1 : w.cell? ⟨B, 1, none⟩ = some (.int .i64 (e : Int)))
    (own : w.ownsRow (B + 1) 31 2 v L.length (flatS L)) (bel : Below B w0 w) (hown : w'.ownsRow (B + 1) 31 2 v' (L.length + 1) (flatS L ++ [.int .i64 (x : Int), .int .i64 (y : Int)])) (hg : (w.alloc O).grownBy w' v.ownBlock) : Cb w0 B s e v' (L ++ [(x, y)]) w' := by
  have hne : some B ≠ v.ownBlock := fun h => by have := (own.lt B h.symm).1; omega
  have hbk : w'.heap[B]? = w.heap[B]? := (hg.block B (by simp; omega) hne).trans (Below.heap_alloc _ _ B hlt)
  refine ⟨by have := hg.size; simp at this; omega, ?_, ?_, ?_, ?_, ?_⟩
  · exact (World.cell?_of_block (a := ⟨B, 0, none⟩) hbk).trans s0
  · exact (World.cell?_of_block (a := ⟨B, 1, none⟩) hbk).trans s1
  · rw [flatS_append, List.length_append]; exact hown
  · exact (bel.alloc (by omega) O).grown hg (by simp; omega) (fun k h => by have := (own.lt k h).1; omega)
  · refine ⟨fun h => ?_, fun h => by simp at h⟩
    subst h
    rcases hown.2 with ⟨_, h0⟩ | ⟨g, cap, cur, h0, _⟩
    · omega
    · cases h0

theorem next_state {K : Kws} {D : Nat → Nat} {n s e i j : Nat} (hsi : s ≤ i) (hie : i < e) (hen : e ≤ n) (h1 : i < j) (_h2 : j ≤ n) (h3 : ∀ u, i < u → u < j → D u ≠ 0) (h4 : D j = 0 ∨ j = n) :
    st K D s (min j e) = st K D s (i + 1) ∧ (j < e → D j = 0) := by
  refine ⟨?_, fun h => ?_⟩
  · obtain ⟨d, hd⟩ : ∃ d, min j e = (i + 1) + d := ⟨min j e - (i + 1), by omega⟩
    rw [hd]
    exact st_skip K D s (i + 1) (by omega) d (fun u a b => h3 u (by omega) (by omega))
  · rcases h4 with h | h
    · exact h
    · omega

def ConjAns (w : World) (L : List (Nat × Nat)) (e : Ending) (w' : World) : Prop :=
  ∃ v, e = .returned v ∧ w'.ownsRow w.heap.size 31 2 v L.length (flatS L) ∧ (v = .slice none 0 0 ↔ L = []) ∧ Below w.heap.size w w'

set_option maxHeartbeats 2000000 in
set_option maxRecDepth 100000 in
theorem conj_any (b n cap s e : Nat) (kd : Nat → Int) (tx : Nat → ByteArray) (ps : Nat → Int) (D : Nat → Nat) (w : World) (hn : n ≤ 32768) (hse : s ≤ e) (hen : e ≤ n) (hT : IsToks w (some ⟨b, 0, none⟩) n kd tx ps)
    (hts : ∀ i, i < n → (tx i).size ≤ 1048576) (hD : Depths tx n s D) (h0 : D s = 0) :
    Calls Try.prog 7 #[.slice (some ⟨b, 0, none⟩) n cap, .agg #[.int .i64 (s : Int), .int .i64 (e : Int)]] w (ConjAns w (conj (kws kd tx) D s e)) := by
  obtain ⟨i0, hi, hz0, hz1, hz2⟩ := info_parts Try.info31
  go_enter Try.func7, Try.ntmps7
  go_wp2_with fail
  go_loopw [5, 6, 7, 8, 9] (fun v st0 c0 bt0 i0 wr => ∃ (i c : Nat) (bt : Bool) (cuts : List Nat), s ≤ i ∧ i ≤ n ∧ (i < e → D i = 0) ∧ st (kws kd tx) D s (min i e) = ⟨c, bt, cuts, false⟩ ∧ i0 = .int .i64 i ∧ st0 = .int .i64 (nextS s cuts : Nat) ∧ c0 = .int .i64 c ∧ bt0 = .bool bt ∧ Cb w w.heap.size s e v (terms s cuts) wr)
    (fun _ _ _ _ i0 _ => n - (intOf i0).toNat)
  case atStart =>
    refine ⟨s, 0, false, [], Nat.le_refl _, by omega, fun _ => h0, by rw [Nat.min_eq_left hse, st_start]; rfl, rfl, rfl, rfl, rfl, ?_⟩
    exact ⟨by simp, by rw [World.cell?_alloc_at (hn := rfl)]; rfl, by rw [World.cell?_alloc_at (hn := rfl)]; rfl, World.ownsRow_nil _ _ _ _, (Below.refl _ _).alloc (Nat.le_refl _) _, by simp [terms]⟩
  case round =>
    obtain ⟨i, c, bt, cuts, hsi, hin0, hDz0, hst, rfl, rfl, rfl, rfl, hCb⟩ := hrel
    by_cases hie : i < e
    · rw [Nat.min_eq_left (by omega)] at hst
      have hin : i < n := by omega
      have hDz := hDz0 hie
      have hDi : Depths tx n i D := fun t h1 h2 => hD t (by omega) h2
      have HU : Hid (st (kws kd tx) D s (i + 1) = upd (kws kd tx) ⟨c, bt, cuts, false⟩ i) := by
        show _ = _
        rw [st_vis (kws kd tx) D s i hsi hDz, hst]
      obtain ⟨hins, hcl⟩ : Inside s i cuts ∧ c ≤ i - s := by
        have h := st_ok (kws kd tx) D s (i - s)
        rw [show s + (i - s) = i by omega, hst] at h
        exact h
      obtain ⟨hnx1, hnx2⟩ := hins.nextS
      have hlenc := hins.length
      obtain ⟨b', off', eb, hbl, h0', h1', h2'⟩ := hT i hin
      cases eb
      simp only [Nat.zero_add] at h0' h1' h2'
      have c0 := (hCb.bel.cell (p := ⟨b, i * 3, none⟩) hbl).trans h0'
      have c1 := (hCb.bel.cell (p := ⟨b, i * 3 + 1, none⟩) hbl).trans h1'
      have c2 := (hCb.bel.cell (p := ⟨b, i * 3 + 2, none⟩) hbl).trans h2'
      have hsz := hts i hin
      have hj := hCb.token (kd i) (ps i) (tx i)
      have s0 := hCb.s0
      have s1 := hCb.s1
      obtain ⟨b1, hb1⟩ : ∃ b1, isB (kd i) (tx i) ⟨#[67, 65, 83, 69]⟩ = b1 := ⟨_, rfl⟩
      obtain ⟨b2, hb2⟩ : ∃ b1, isB (kd i) (tx i) ⟨#[69, 78, 68]⟩ = b1 := ⟨_, rfl⟩
      obtain ⟨b3, hb3⟩ : ∃ b1, isB (kd i) (tx i) ⟨#[79, 82]⟩ = b1 := ⟨_, rfl⟩
      obtain ⟨b4, hb4⟩ : ∃ b1, isB (kd i) (tx i) ⟨#[66, 69, 84, 87, 69, 69, 78]⟩ = b1 := ⟨_, rfl⟩
      obtain ⟨b5, hb5⟩ : ∃ b1, isB (kd i) (tx i) ⟨#[65, 78, 68]⟩ = b1 := ⟨_, rfl⟩
      have k1 : Hid ((kws kd tx).cs i = b1) := hb1
      have k2 : Hid ((kws kd tx).en i = b2) := hb2
      have k3 : Hid ((kws kd tx).orr i = b3) := hb3
      have k4 : Hid ((kws kd tx).bt i = b4) := hb4
      have k5 : Hid ((kws kd tx).an i = b5) := hb5
      clear h0' h1' h2' hst hDz0 hD
      cases b1 with
      | true =>
        have HS : Hid (st (kws kd tx) D s (i + 1) = ⟨c + 1, bt, cuts, false⟩) := by
          show _ = _
          rw [HU.out]
          simp [upd, k1.out]
        clear HU
        go_wp2_with (first | (go_at_call 12; refine (is_any _ _ _ _ _ hsz (by decide)).mono ?_; rintro e' wn ⟨rfl, hbn⟩; have hj := hj.below hbn; have t0 := hj.t0; have t1 := hj.t1; have t2 := hj.t2; have s0 := hj.s0; have s1 := hj.s1; clear hbn) | (go_at_call 11; refine (skip_any b n cap i kd tx ps D _ hn hin (hT.below hj.bel) hDi hDz).mono ?_; rintro e' wn2 ⟨⟨j, rfl, hj1, hj2, hj3, hj4⟩, rfl⟩; have hnx := next_state (K := kws kd tx) hsi hie hen hj1 hj2 hj3 hj4; have HNX : Hid (st (kws kd tx) D s (min j e) = st (kws kd tx) D s (i + 1) ∧ (j < e → D j = 0)) := hnx; clear hnx hj3 hj4))
        go_roundw
        case rel => exact ⟨j, _, _, _, by omega, hj2, HNX.out.2, HNX.out.1.trans HS.out, rfl, rfl, by go_num, rfl, hj.back hCb.nil⟩
        case measure => simp [intOf]; omega
      | false =>
        cases c with
        | succ c =>
          cases b2 with
          | true =>
            have HS : Hid (st (kws kd tx) D s (i + 1) = ⟨c, bt, cuts, false⟩) := by
              show _ = _
              rw [HU.out]
              simp [upd, k1.out, k2.out]
            clear HU
            go_wp2_with (first | (go_at_call 12; refine (is_any _ _ _ _ _ hsz (by decide)).mono ?_; rintro e' wn ⟨rfl, hbn⟩; have hj := hj.below hbn; have t0 := hj.t0; have t1 := hj.t1; have t2 := hj.t2; have s0 := hj.s0; have s1 := hj.s1; clear hbn) | (go_at_call 11; refine (skip_any b n cap i kd tx ps D _ hn hin (hT.below hj.bel) hDi hDz).mono ?_; rintro e' wn2 ⟨⟨j, rfl, hj1, hj2, hj3, hj4⟩, rfl⟩; have hnx := next_state (K := kws kd tx) hsi hie hen hj1 hj2 hj3 hj4; have HNX : Hid (st (kws kd tx) D s (min j e) = st (kws kd tx) D s (i + 1) ∧ (j < e → D j = 0)) := hnx; clear hnx hj3 hj4))
            go_roundw
            case rel => exact ⟨j, _, _, _, by omega, hj2, HNX.out.2, HNX.out.1.trans HS.out, rfl, rfl, by go_num, rfl, hj.back hCb.nil⟩
            case measure => simp [intOf]; omega
          | false =>
            have HS : Hid (st (kws kd tx) D s (i + 1) = ⟨c + 1, bt, cuts, false⟩) := by
              show _ = _
              rw [HU.out]
              simp [upd, k1.out, k2.out]
            clear HU
            go_wp2_with (first | (go_at_call 12; refine (is_any _ _ _ _ _ hsz (by decide)).mono ?_; rintro e' wn ⟨rfl, hbn⟩; have hj := hj.below hbn; have t0 := hj.t0; have t1 := hj.t1; have t2 := hj.t2; have s0 := hj.s0; have s1 := hj.s1; clear hbn) | (go_at_call 11; refine (skip_any b n cap i kd tx ps D _ hn hin (hT.below hj.bel) hDi hDz).mono ?_; rintro e' wn2 ⟨⟨j, rfl, hj1, hj2, hj3, hj4⟩, rfl⟩; have hnx := next_state (K := kws kd tx) hsi hie hen hj1 hj2 hj3 hj4; have HNX : Hid (st (kws kd tx) D s (min j e) = st (kws kd tx) D s (i + 1) ∧ (j < e → D j = 0)) := hnx; clear hnx hj3 hj4))
            go_roundw
            case rel => exact ⟨j, _, _, _, by omega, hj2, HNX.out.2, HNX.out.1.trans HS.out, rfl, rfl, rfl, rfl, hj.back hCb.nil⟩
            case measure => simp [intOf]; omega
        | zero =>
          cases b3 with
          | true =>
            have HS : Hid ((st (kws kd tx) D s (i + 1)).orr = true) := by
              show _ = _
              rw [HU.out]
              simp [upd, k1.out, k3.out]
            have HO : Hid ((st (kws kd tx) D s e).orr = true) := by
              have h := st_or (kws kd tx) D s (i + 1) (by omega) HS.out (e - (i + 1))
              rw [show i + 1 + (e - (i + 1)) = e by omega] at h
              exact h
            clear HU HS
            cases b2
            all_goals
              go_wp2_with (first | (go_at_call 12; refine (is_any _ _ _ _ _ hsz (by decide)).mono ?_; rintro e' wn ⟨rfl, hbn⟩; have hj := hj.below hbn; have t0 := hj.t0; have t1 := hj.t1; have t2 := hj.t2; have s0 := hj.s0; have s1 := hj.s1; clear hbn))
              go_ret
              have hc : conj (kws kd tx) D s e = [(s, e)] := by unfold conj; rw [if_pos HO.out]
              have hbw : w.heap.size ≤ wn.heap.size := by have := hj.lt; have := hj.bt; omega
              rw [hc]
              exact ⟨_, rfl, World.ownsRow_lit wn #[.int .i64 (s : Int), .int .i64 (e : Int)] 1 hbw (by decide) rfl, by simp, hj.bel.alloc hbw _⟩
          | false =>
            cases b4 with
            | true =>
              cases b2
              all_goals
                have HS : Hid (st (kws kd tx) D s (i + 1) = ⟨0, true, cuts, false⟩) := by
                  show _ = _
                  rw [HU.out]
                  simp [upd, k1.out, k3.out, k4.out]
                clear HU
                go_wp2_with (first | (go_at_call 12; refine (is_any _ _ _ _ _ hsz (by decide)).mono ?_; rintro e' wn ⟨rfl, hbn⟩; have hj := hj.below hbn; have t0 := hj.t0; have t1 := hj.t1; have t2 := hj.t2; have s0 := hj.s0; have s1 := hj.s1; clear hbn) | (go_at_call 11; refine (skip_any b n cap i kd tx ps D _ hn hin (hT.below hj.bel) hDi hDz).mono ?_; rintro e' wn2 ⟨⟨j, rfl, hj1, hj2, hj3, hj4⟩, rfl⟩; have hnx := next_state (K := kws kd tx) hsi hie hen hj1 hj2 hj3 hj4; have HNX : Hid (st (kws kd tx) D s (min j e) = st (kws kd tx) D s (i + 1) ∧ (j < e → D j = 0)) := hnx; clear hnx hj3 hj4))
                go_roundw
                case rel => exact ⟨j, _, _, _, by omega, hj2, HNX.out.2, HNX.out.1.trans HS.out, rfl, rfl, rfl, rfl, hj.back hCb.nil⟩
                case measure => simp [intOf]; omega
            | false =>
              cases b5 with
              | false =>
                cases b2
                all_goals
                  have HS : Hid (st (kws kd tx) D s (i + 1) = ⟨0, bt, cuts, false⟩) := by
                    show _ = _
                    rw [HU.out]
                    simp [upd, k1.out, k3.out, k4.out, k5.out]
                  clear HU
                  go_wp2_with (first | (go_at_call 12; refine (is_any _ _ _ _ _ hsz (by decide)).mono ?_; rintro e' wn ⟨rfl, hbn⟩; have hj := hj.below hbn; have t0 := hj.t0; have t1 := hj.t1; have t2 := hj.t2; have s0 := hj.s0; have s1 := hj.s1; clear hbn) | (go_at_call 11; refine (skip_any b n cap i kd tx ps D _ hn hin (hT.below hj.bel) hDi hDz).mono ?_; rintro e' wn2 ⟨⟨j, rfl, hj1, hj2, hj3, hj4⟩, rfl⟩; have hnx := next_state (K := kws kd tx) hsi hie hen hj1 hj2 hj3 hj4; have HNX : Hid (st (kws kd tx) D s (min j e) = st (kws kd tx) D s (i + 1) ∧ (j < e → D j = 0)) := hnx; clear hnx hj3 hj4))
                  go_roundw
                  case rel => exact ⟨j, _, _, _, by omega, hj2, HNX.out.2, HNX.out.1.trans HS.out, rfl, rfl, rfl, rfl, hj.back hCb.nil⟩
                  case measure => simp [intOf]; omega
              | true =>
                cases bt with
                | true =>
                  cases b2
                  all_goals
                    have HS : Hid (st (kws kd tx) D s (i + 1) = ⟨0, false, cuts, false⟩) := by
                      show _ = _
                      rw [HU.out]
                      simp [upd, k1.out, k3.out, k4.out, k5.out]
                    clear HU
                    go_wp2_with (first | (go_at_call 12; refine (is_any _ _ _ _ _ hsz (by decide)).mono ?_; rintro e' wn ⟨rfl, hbn⟩; have hj := hj.below hbn; have t0 := hj.t0; have t1 := hj.t1; have t2 := hj.t2; have s0 := hj.s0; have s1 := hj.s1; clear hbn) | (go_at_call 11; refine (skip_any b n cap i kd tx ps D _ hn hin (hT.below hj.bel) hDi hDz).mono ?_; rintro e' wn2 ⟨⟨j, rfl, hj1, hj2, hj3, hj4⟩, rfl⟩; have hnx := next_state (K := kws kd tx) hsi hie hen hj1 hj2 hj3 hj4; have HNX : Hid (st (kws kd tx) D s (min j e) = st (kws kd tx) D s (i + 1) ∧ (j < e → D j = 0)) := hnx; clear hnx hj3 hj4))
                    go_roundw
                    case rel => exact ⟨j, _, _, _, by omega, hj2, HNX.out.2, HNX.out.1.trans HS.out, rfl, rfl, rfl, rfl, hj.back hCb.nil⟩
                    case measure => simp [intOf]; omega
                | false =>
                  cases b2
                  all_goals
                    have HS : Hid (st (kws kd tx) D s (i + 1) = ⟨0, false, cuts ++ [i], false⟩) := by
                      show _ = _
                      rw [HU.out]
                      simp [upd, k1.out, k3.out, k4.out, k5.out]
                    clear HU
                    go_wp2_with (first | (go_at_call 12; refine (is_any _ _ _ _ _ hsz (by decide)).mono ?_; rintro e' wn ⟨rfl, hbn⟩; have hj := hj.below hbn; have t0 := hj.t0; have t1 := hj.t1; have t2 := hj.t2; have s0 := hj.s0; have s1 := hj.s1; clear hbn) | (at_builtin; refine wpList_append_own _ rfl _ _ 28 rfl (w.heap.size + 1) 31 i0 (.agg #[.int .i64 0, .int .i64 0]) 2 16 Try.underlying28 hi hz0 hz1 hz2 rfl (by decide) _ _ _ rfl (hj.own.alloc _) ⟨wn.heap.size, 0, none⟩ 1 1 [.int .i64 ((nextS s cuts : Nat) : Int), .int .i64 ((i : Nat) : Int)] rfl rfl (two_new _ _ _ _) (two_one _ _) (by rw [terms_length]; unfold maxLen; omega) (by rw [terms_length]; omega) (by have := hj.lt; have := hj.bt; simp; omega) ?_; intro v' wp hown' hgrow _; have hC2 := Cb.appended (by have := hj.lt; have := hj.bt; omega) hj.s0 hj.s1 hj.own hj.bel hown' hgrow; obtain ⟨g', cap', rfl⟩ := ownsRow_succ hown'; have s0 := hC2.s0; have s1 := hC2.s1; clear hown' hgrow hj) | (go_at_call 11; refine (skip_any b n cap i kd tx ps D _ hn hin (hT.below hC2.bel) hDi hDz).mono ?_; rintro e' wn2 ⟨⟨j, rfl, hj1, hj2, hj3, hj4⟩, rfl⟩; have hnx := next_state (K := kws kd tx) hsi hie hen hj1 hj2 hj3 hj4; have HNX : Hid (st (kws kd tx) D s (min j e) = st (kws kd tx) D s (i + 1) ∧ (j < e → D j = 0)) := hnx; clear hnx hj3 hj4))
                    go_roundw
                    case rel => exact ⟨j, _, _, _, by omega, hj2, HNX.out.2, HNX.out.1.trans HS.out, rfl, by rw [nextS_snoc]; go_num, rfl, rfl, by rw [terms_snoc]; exact hC2⟩
                    case measure => simp [intOf]; omega
    · rw [Nat.min_eq_right (by omega)] at hst
      have s0 := hCb.s0
      have s1 := hCb.s1
      obtain ⟨hins, hcl⟩ : Inside s e cuts ∧ c ≤ e - s := by
        have h := st_ok (kws kd tx) D s (e - s)
        rw [show s + (e - s) = e by omega, hst] at h
        exact h
      obtain ⟨hnx1, hnx2⟩ := hins.nextS
      have hlenc := hins.length
      have hlt := hCb.lt
      by_cases hse2 : nextS s cuts < e
      · have hc : conj (kws kd tx) D s e = terms s cuts ++ [(nextS s cuts, e)] := by unfold conj; rw [hst]; simp [hse2]
        have HC2 : Hid (conj (kws kd tx) D s e = _) := hc
        clear hst hc hT hD
        go_wp2_with (at_builtin; refine wpList_append_own _ rfl _ _ 28 rfl (w.heap.size + 1) 31 i0 (.agg #[.int .i64 0, .int .i64 0]) 2 16 Try.underlying28 hi hz0 hz1 hz2 rfl (by decide) _ _ _ rfl (hCb.own.alloc _) ⟨wr.heap.size, 0, none⟩ 1 1 [.int .i64 ((nextS s cuts : Nat) : Int), .int .i64 ((e : Nat) : Int)] rfl rfl (two_new _ _ _ _) (two_one _ _) (by rw [terms_length]; unfold maxLen; omega) (by rw [terms_length]; omega) (by simp; omega) ?_; intro v' wp hown' hgrow _; have hC2 := Cb.appended hlt hCb.s0 hCb.s1 hCb.own hCb.bel hown' hgrow; obtain ⟨g', cap', rfl⟩ := ownsRow_succ hown'; clear hown' hgrow)
        go_ret
        rw [HC2.out]
        exact ⟨_, rfl, ownsRow_base_lower hC2.own (by omega), hC2.nil, hC2.bel⟩
      · have hc : conj (kws kd tx) D s e = terms s cuts := by unfold conj; rw [hst]; simp [hse2]
        have HC2 : Hid (conj (kws kd tx) D s e = _) := hc
        clear hst hc hT hD
        go_wp2_with fail
        go_ret
        rw [HC2.out]
        exact ⟨_, rfl, ownsRow_base_lower hCb.own (by omega), hCb.nil, hCb.bel⟩
#print axioms conj_any
end Go.Proofs.Qxb6630155a
