import Derived.Test.Qxb6630155aLaw
namespace Go.Proofs.Qxb6630155a
open Go.RowKit

/-! ### The keywords by isKeyword are those by Token.Is -/
theorem up_of (kw : ByteArray) (h : (kw.data.toList.all fun b => decide (65 ≤ b.toNat) && decide (b.toNat ≤ 90)) = true) : ∀ i, i < kw.size → 65 ≤ byteAt kw i ∧ byteAt kw i ≤ 90 := by
  intro i hi
  rw [byteAt_eq kw i hi]
  have hm : kw[i] ∈ kw.data.toList := by
    have : kw[i] = kw.data.toList[i]'(by rw [Array.length_toList]; exact hi) := rfl
    rw [this]
    exact List.getElem_mem _
  have := List.all_eq_true.1 h _ hm
  simp at this
  omega
theorem kw_case (k : Int) (t : ByteArray) : kwB k t ⟨#[67, 65, 83, 69]⟩ = isB k t ⟨#[67, 65, 83, 69]⟩ := kw_is k t _ (up_of _ (by decide))
theorem kw_or (k : Int) (t : ByteArray) : kwB k t ⟨#[79, 82]⟩ = isB k t ⟨#[79, 82]⟩ := kw_is k t _ (up_of _ (by decide))
theorem kw_btw (k : Int) (t : ByteArray) : kwB k t ⟨#[66, 69, 84, 87, 69, 69, 78]⟩ = isB k t ⟨#[66, 69, 84, 87, 69, 69, 78]⟩ := kw_is k t _ (up_of _ (by decide))

theorem Try.info3 : (Try.prog.info? 3).map (fun i => (i.zero, i.size, i.bytes)) = some (some (.int .i64 0), 1, 8) := by kernel_rfl
theorem Try.info4 : (Try.prog.info? 4).map (fun i => (i.zero, i.size, i.bytes)) = some (some (.bool false), 1, 1) := by kernel_rfl

/-- Is token s + j outside parentheses (told of the first k)? -/
def vis (D : Nat → Nat) (s k j : Nat) : Bool := if j < k then decide (D (s + j) = 0) else false
theorem vis_true (D : Nat → Nat) (s k j : Nat) (h : D (s + k) = 0) : (if j = k then Value.bool true else .bool (vis D s k j)) = .bool (vis D s (k + 1) j) := by
  by_cases e : j = k
  · subst e; simp [vis, h]
  · rw [if_neg e]; congr 1; unfold vis
    by_cases e2 : j < k
    · rw [if_pos e2, if_pos (by omega)]
    · rw [if_neg e2, if_neg (by omega)]
theorem vis_false (D : Nat → Nat) (s k j : Nat) (h : D (s + k) ≠ 0) : Value.bool (vis D s k j) = .bool (vis D s (k + 1) j) := by
  congr 1; unfold vis
  by_cases e2 : j < k
  · rw [if_pos e2, if_pos (by omega)]
  · rw [if_neg e2]
    by_cases e : j = k
    · subst e; simp [h]
    · rw [if_neg (by omega)]

def ints (l : List Nat) : List Value := l.map fun c : Nat => Value.int .i64 (c : Int)
theorem ints_length (l : List Nat) : (ints l).length = l.length := by simp [ints]
theorem ints_snoc (l : List Nat) (k : Nat) : ints (l ++ [k]) = ints l ++ [.int .i64 (k : Int)] := by simp [ints]
/-- THE WORLD IN A ROUND OF THE SECOND PASS. -/
structure Mj (w0 : World) (B T N : Nat) (f : Nat → Value) (k p : Int) (t : ByteArray) (v : Value) (cuts : List Nat) (w : World) : Prop where
  bt : B < T
  lt : T < w.heap.size
  t0 : w.cell? ⟨T, 0, none⟩ = some (.int .i64 k)
  t1 : w.cell? ⟨T, 1, none⟩ = some (.string t)
  t2 : w.cell? ⟨T, 2, none⟩ = some (.int .i64 p)
  own : w.ownsRow (B + 1) 3 1 v cuts.length (ints cuts)
  row : w.rowIs B 4 N f
  bel : Below B w0 w
theorem rowIs_below {w w' : World} {b n : Nat} {t : TypeId} {f : Nat → Value} (h : w.rowIs b t n f) (hb : Below w.heap.size w w') : w'.rowIs b t n f := h.of_block (hb.block b h.lt)
theorem Mj.below {w0 : World} {B T N : Nat} {f : Nat → Value} {k p : Int} {t : ByteArray} {v : Value} {cuts : List Nat} {w w' : World} (h : Mj w0 B T N f k p t v cuts w) (hb : Below w.heap.size w w') : Mj w0 B T N f k p t v cuts w' := by
  have hs := hb.size
  have hT := h.lt
  have hB := h.bt
  exact ⟨hB, by omega, (hb.cell (p := ⟨T, 0, none⟩) hT).trans h.t0, (hb.cell (p := ⟨T, 1, none⟩) hT).trans h.t1, (hb.cell (p := ⟨T, 2, none⟩) hT).trans h.t2, ownsRow_below h.own hb, rowIs_below h.row hb, h.bel.trans (hb.mono (by omega))⟩
/-- .. between two rounds. -/
structure Mb (w0 : World) (B N : Nat) (f : Nat → Value) (v : Value) (cuts : List Nat) (w : World) : Prop where
  own : w.ownsRow (B + 1) 3 1 v cuts.length (ints cuts)
  row : w.rowIs B 4 N f
  bel : Below B w0 w
theorem Mb.token {w0 : World} {B N : Nat} {f : Nat → Value} {v : Value} {cuts : List Nat} {w : World} (h : Mb w0 B N f v cuts w) (k p : Int) (t : ByteArray) : Mj w0 B w.heap.size N f k p t v cuts (w.alloc (.cells #[.int .i64 k, .string t, .int .i64 p] 25)) := by
  have hlt := h.row.lt
  refine ⟨hlt, by simp, ?_, ?_, ?_, h.own.alloc _, h.row.alloc _, h.bel.alloc (by omega) _⟩
  all_goals rw [World.cell?_alloc_at (hn := rfl)]; rfl
theorem Mj.back {w0 : World} {B T N : Nat} {f : Nat → Value} {k p : Int} {t : ByteArray} {v : Value} {cuts : List Nat} {w : World} (h : Mj w0 B T N f k p t v cuts w) : Mb w0 B N f v cuts w := ⟨h.own, h.row, h.bel⟩
theorem Mb.appended {w0 : World} {B N : Nat} {f : Nat → Value} {v v' : Value} {cuts : List Nat} {w w' : World} {O : Obj} {k : Nat} (h : Mb w0 B N f v cuts w) (hown : w'.ownsRow (B + 1) 3 1 v' (cuts.length + 1) (ints cuts ++ [.int .i64 (k : Int)])) (hg : (w.alloc O).grownBy w' v.ownBlock) : Mb w0 B N f v' (cuts ++ [k]) w' := by
  have hlt := h.row.lt
  have hne : some B ≠ v.ownBlock := fun e => by have := (h.own.lt B e.symm).1; omega
  refine ⟨?_, (h.row.alloc O).of_block (hg.block B (by simp; omega) hne), ?_⟩
  · rw [ints_snoc, List.length_append]; exact hown
  · exact (h.bel.alloc (by omega) O).grown hg (by simp; omega) (fun j e => by have := (h.own.lt j e).1; omega)

/-! ### The terms by index -/
def loOf (s : Nat) (cuts : List Nat) : Nat → Nat
  | 0 => s
  | j + 1 => cuts.getD j 0 + 1
theorem term_at : ∀ (cuts : List Nat) (s j : Nat), j < cuts.length → (terms s cuts)[j]? = some (loOf s cuts j, cuts.getD j 0)
  | [], _, j, h => absurd h (by simp)
  | c :: r, s, 0, _ => rfl
  | c :: r, s, j + 1, h => by
    have ih := term_at r (c + 1) j (by simpa using h)
    show (terms (c + 1) r)[j]? = _
    rw [ih]
    cases j with
    | zero => rfl
    | succ j => rfl
theorem nextS_lo : ∀ (cuts : List Nat) (s : Nat), nextS s cuts = loOf s cuts cuts.length
  | [], _ => rfl
  | [_], _ => rfl
  | c :: d :: r, _ => nextS_lo (d :: r) (c + 1)
theorem take_step {L : List (Nat × Nat)} {j : Nat} {q : Nat × Nat} (h : L[j]? = some q) : L.take (j + 1) = L.take j ++ [q] := by
  obtain ⟨hj, e⟩ := List.getElem?_eq_some_iff.1 h
  rw [List.take_succ_eq_append_getElem hj, e]
theorem inside_lt {t : Nat} : ∀ {s : Nat} {l : List Nat}, Inside s t l → ∀ j, j < l.length → s ≤ l.getD j 0 ∧ l.getD j 0 < t
  | _, [], _, j, h => absurd h (by simp)
  | s, c :: r, ⟨h1, h2, h3⟩, 0, _ => ⟨h1, h2⟩
  | s, c :: r, ⟨h1, h2, h3⟩, j + 1, h => by
    have ih := inside_lt h3 j (by simpa using h)
    show s ≤ r.getD j 0 ∧ r.getD j 0 < t
    omega

/-- The slice of the cuts, cell by cell. -/
def Cuts (w : World) (av : Option Addr) (cuts : List Nat) : Prop := ∀ j, j < cuts.length → ∃ g, av = some ⟨g, 0, none⟩ ∧ g < w.heap.size ∧ w.cell? ⟨g, j, none⟩ = some (.int .i64 (cuts.getD j 0 : Nat))
theorem own_cuts {w : World} {B : Nat} {v : Value} {cuts : List Nat} (h : w.ownsRow B 3 1 v cuts.length (ints cuts)) : ∃ av vc, v = .slice av cuts.length vc ∧ Cuts w av cuts := by
  rcases h.2 with ⟨rfl, h0⟩ | ⟨g, cap, cur, rfl, hb, hg, r⟩
  · exact ⟨none, 0, by rw [h0], fun j hj => absurd hj (by omega)⟩
  · refine ⟨_, _, rfl, fun j hj => ⟨g, rfl, (h.lt g rfl).2, ?_⟩⟩
    rw [h.cellAt j (by omega)]
    simp [ints, hj]
theorem Cuts.below {w w' : World} {B : Nat} {av : Option Addr} {cuts : List Nat} (h : Cuts w av cuts) (hB : B = w.heap.size) (hb : Below B w w') : Cuts w' av cuts := fun j hj => by
  subst hB
  obtain ⟨g, e, hl, hc⟩ := h j hj
  exact ⟨g, e, by have := hb.size; omega, (hb.cell (p := ⟨g, j, none⟩) hl).trans hc⟩

def ModelAns (w : World) (L : List (Nat × Nat)) (e : Ending) (w' : World) : Prop :=
  ∃ v, e = .returned v ∧ w'.ownsRow w.heap.size 31 2 v L.length (flatS L) ∧ Below w.heap.size w w'

set_option maxHeartbeats 2000000 in
set_option maxRecDepth 100000 in
theorem model_any (a : Option Addr) (n c s e N : Nat) (kd : Nat → Int) (tx : Nat → ByteArray) (ps : Nat → Int) (D : Nat → Nat) (w : World) (hn : n ≤ 32768) (hse : s < e) (hen : e ≤ n) (hNe : (e : Int) - (s : Int) = (N : Int)) (hT : IsToks w a n kd tx ps)
    (hts : ∀ i, i < n → (tx i).size ≤ 1048576) (hD : Depths tx n s D) (h0 : D s = 0) :
    Calls Try.prog 8 #[.slice a n c, .int .i64 (s : Int), .int .i64 (e : Int)] w (ModelAns w (conj (kws kd tx) D s e)) := by
  have hNn : N ≤ 32768 := by omega
  have hmk := run_make_row' (P := Try.prog) 39 4 (.bool false) 1 Try.underlying39 Try.info4 rfl .i64 .i64 N (by omega) (by omega)
  obtain ⟨i3, hi3, hz30, hz31, hz32⟩ := info_parts Try.info3
  obtain ⟨i0, hi, hz0, hz1, hz2⟩ := info_parts Try.info31
  go_enter Try.func8, Try.ntmps8
  go_wp2_with fail
  go_loopw [9, 10, 11] (fun d i _ wr => ∃ k : Nat, k ≤ N ∧ i = .int .i64 k ∧ d = .int .i64 (D (s + k) : Nat) ∧ D (s + k) ≤ k ∧ wr.rowIs w.heap.size 4 N (fun j => .bool (vis D s k j)) ∧ Below w.heap.size w wr) (fun _ i _ _ => N - (intOf i).toNat)
  case atStart => exact ⟨0, Nat.zero_le _, rfl, by rw [Nat.add_zero, h0]; rfl, by rw [Nat.add_zero, h0]; omega, (World.rowIs_made _ _ _ _).congr (fun j _ => by simp [vis]), (Below.refl _ _).alloc (Nat.le_refl _) _⟩
  case round =>
    obtain ⟨k, hk, rfl, rfl, hdk, hrow, hb⟩ := hrel
    by_cases hlt : k < N
    · as_aux_lemma =>
      obtain ⟨b, off, rfl, hbl, _, h1, _⟩ := hT (s + k) (by omega)
      have c1 := (hb.cell (p := ⟨b, off + (s + k) * 3 + 1, none⟩) hbl).trans h1
      have hst := hD (s + k) (by omega) (by omega)
      have HST : Hid (D (s + k + 1) = stepD (D (s + k)) (opB tx (s + k)) (clB tx (s + k))) := hst
      have hop : ((tx (s + k)).toList == [40]) = opB tx (s + k) := rfl
      have hcl : ((tx (s + k)).toList == [41]) = clB tx (s + k) := rfl
      generalize tx (s + k) = t at c1 hop hcl
      generalize opB tx (s + k) = bo at hop HST
      generalize clB tx (s + k) = bc at hcl HST
      have hf := hrow.frozen k
      have hold := hrow.cell hlt
      have HV1 : Hid (D (s + k) = 0 → ∀ j, (if j = k then Value.bool true else .bool (vis D s k j)) = .bool (vis D s (k + 1) j)) := fun h j => vis_true D s k j h
      have HV2 : Hid (D (s + k) ≠ 0 → ∀ j, Value.bool (vis D s k j) = .bool (vis D s (k + 1) j)) := fun h j => vis_false D s k j h
      generalize vis D s k k = vk at hold
      have HD1 : Hid (D (s + (k + 1)) = D (s + k + 1)) := rfl
      clear hst hT hts hD h1 h0 hmk
      generalize hd : D (s + k) = d at *
      have HDD : Hid (D (s + k) = d) := hd
      clear hd
      cases d with
      | zero =>
        have hfin := (hrow.set k (.bool true)).congr (fun j _ => HV1.out rfl j)
        cases bo with
        | true =>
          have e1 : Hid (D (s + (k + 1)) = 1) := by show _ = _; rw [HD1.out, HST.out]; simp [stepD]
          go_wp2
          go_roundw
          case rel => exact ⟨k + 1, by omega, by go_num, by rw [e1.out] <;> rfl, by have := e1.out; omega, hfin, hb.setCell (Nat.le_refl _) _⟩
          case measure => simp [intOf]; omega
        | false =>
          have e1 : Hid (D (s + (k + 1)) = 0) := by show _ = _; rw [HD1.out, HST.out]; simp [stepD]
          go_wp2
          go_roundw
          case rel => exact ⟨k + 1, by omega, by go_num, by rw [e1.out] <;> rfl, by have := e1.out; omega, hfin, hb.setCell (Nat.le_refl _) _⟩
          case measure => simp [intOf]; omega
      | succ d =>
        have hfin := hrow.congr (fun j _ => HV2.out (by omega) j)
        have hd0 : (((d + 1 : Nat) : Int) == 0) = false := by simp; omega
        have hd0' : ((d : Int) + 1 == 0) = false := by simp; omega
        cases bo with
        | true =>
          have e1 : Hid (D (s + (k + 1)) = d + 1 + 1) := by show _ = _; rw [HD1.out, HST.out]; simp [stepD]
          go_wp2
          go_roundw
          case rel => exact ⟨k + 1, by omega, by go_num, by rw [e1.out] <;> go_num, by have := e1.out; omega, hfin, hb⟩
          case measure => simp [intOf]; omega
        | false =>
          cases bc with
          | true =>
            have e1 : Hid (D (s + (k + 1)) = d) := by show _ = _; rw [HD1.out, HST.out]; simp [stepD]
            go_wp2
            go_roundw
            case rel => exact ⟨k + 1, by omega, by go_num, by rw [e1.out] <;> go_num, by have := e1.out; omega, hfin, hb⟩
            case measure => simp [intOf]; omega
          | false =>
            have e1 : Hid (D (s + (k + 1)) = d + 1) := by show _ = _; rw [HD1.out, HST.out]; simp [stepD]
            go_wp2
            go_roundw
            case rel => exact ⟨k + 1, by omega, by go_num, by rw [e1.out], by have := e1.out; omega, hfin, hb⟩
            case measure => simp [intOf]; omega
    · as_aux_lemma =>
      obtain rfl : N = k := by omega
      clear hmk
      go_wp2_with (at_make; refine wpList_make_own _ rfl _ _ 40 rfl (w.heap.size + 1) 3 i3 (.int .i64 0) 1 Try.underlying40 hi3 hz30 hz31 _ _ _ N rfl rfl rfl (by rw [hz32]; omega) (by unfold maxLen; omega) (by have := hrow.lt; omega) ?_; intro w2 hown hg2)
      have hB2 : Mb w w.heap.size N (fun j => .bool (vis D s N j)) (.slice (some ⟨wr.heap.size, 0, none⟩) 0 N) [] w2 :=
        ⟨hown, hrow.of_block (hg2.block w.heap.size hrow.lt (by simp)), hb.grown hg2 (by have := hrow.lt; omega) (fun k h => by cases h)⟩
      clear hown hg2 hrow hb hdk hlt hk
      go_loopw [12, 13, 14, 15, 16] (fun v c0 bt0 i _ wz => ∃ (k c : Nat) (bt : Bool) (cuts : List Nat), k ≤ N ∧ st (kws kd tx) D s (s + k) = ⟨c, bt, cuts, false⟩ ∧ i = .int .i64 k ∧ c0 = .int .i64 c ∧ bt0 = .bool bt ∧ Mb w w.heap.size N (fun j => .bool (vis D s N j)) v cuts wz)
        (fun _ _ _ i _ _ => N - (intOf i).toNat)
      case atStart => exact ⟨0, 0, false, [], Nat.zero_le _, by rw [Nat.add_zero, st_start]; rfl, rfl, rfl, rfl, hB2⟩
      case round =>
        clear hB2
        obtain ⟨k, c', bt, cuts, hk, hst, rfl, rfl, rfl, hM⟩ := hrel
        obtain ⟨hins, hcl⟩ := st_ok (kws kd tx) D s k
        rw [hst] at hins hcl
        dsimp only at hins hcl
        have hlenc := hins.length
        by_cases hlt : k < N
        · have hvc := hM.row.cell hlt
          simp only [vis] at hvc
          rw [if_pos hlt] at hvc
          by_cases hdz : D (s + k) = 0
          · as_aux_lemma =>
            rw [decide_eq_true hdz] at hvc
            have HU : Hid (st (kws kd tx) D s (s + (k + 1)) = upd (kws kd tx) ⟨c', bt, cuts, false⟩ (s + k)) := by
              show _ = _
              rw [← Nat.add_assoc, st_vis (kws kd tx) D s (s + k) (by omega) hdz, hst]
            obtain ⟨b, off, rfl, hbl, h0', h1', h2'⟩ := hT (s + k) (by omega)
            have c0 := (hM.bel.cell (p := ⟨b, off + (s + k) * 3, none⟩) hbl).trans h0'
            have c1 := (hM.bel.cell (p := ⟨b, off + (s + k) * 3 + 1, none⟩) hbl).trans h1'
            have c2 := (hM.bel.cell (p := ⟨b, off + (s + k) * 3 + 2, none⟩) hbl).trans h2'
            have hsz := hts (s + k) (by omega)
            have hj := hM.token (kd (s + k)) (ps (s + k)) (tx (s + k))
            obtain ⟨b1, hb1⟩ : ∃ b1, kwB (kd (s + k)) (tx (s + k)) ⟨#[67, 65, 83, 69]⟩ = b1 := ⟨_, rfl⟩
            obtain ⟨b2, hb2⟩ : ∃ b1, kwB (kd (s + k)) (tx (s + k)) ⟨#[69, 78, 68]⟩ = b1 := ⟨_, rfl⟩
            obtain ⟨b3, hb3⟩ : ∃ b1, kwB (kd (s + k)) (tx (s + k)) ⟨#[79, 82]⟩ = b1 := ⟨_, rfl⟩
            obtain ⟨b4, hb4⟩ : ∃ b1, kwB (kd (s + k)) (tx (s + k)) ⟨#[66, 69, 84, 87, 69, 69, 78]⟩ = b1 := ⟨_, rfl⟩
            obtain ⟨b5, hb5⟩ : ∃ b1, kwB (kd (s + k)) (tx (s + k)) ⟨#[65, 78, 68]⟩ = b1 := ⟨_, rfl⟩
            have k1 : Hid ((kws kd tx).cs (s + k) = b1) := (kw_case _ _).symm.trans hb1
            have k2 : Hid ((kws kd tx).en (s + k) = b2) := (kw_end _ _).symm.trans hb2
            have k3 : Hid ((kws kd tx).orr (s + k) = b3) := (kw_or _ _).symm.trans hb3
            have k4 : Hid ((kws kd tx).bt (s + k) = b4) := (kw_btw _ _).symm.trans hb4
            have k5 : Hid ((kws kd tx).an (s + k) = b5) := (kw_and _ _).symm.trans hb5
            clear h0' h1' h2' hst hD hT hts hdz hins
            cases b1 with
            | true =>
              have HS : Hid (st (kws kd tx) D s (s + (k + 1)) = ⟨c' + 1, bt, cuts, false⟩) := by
                show _ = _
                rw [HU.out]
                simp [upd, k1.out]
              clear HU
              go_wp2_with (first | (go_at_call 10; refine (kw_any _ _ _ _ _ hsz (by decide)).mono ?_; rintro e' wn ⟨rfl, hbn⟩; have hj := hj.below hbn; have t0 := hj.t0; have t1 := hj.t1; have t2 := hj.t2; clear hbn))
              go_roundw
              case rel => exact ⟨k + 1, _, _, _, by omega, HS.out, by go_num, by go_num, rfl, hj.back⟩
              case measure => simp [intOf]; omega
            | false =>
              cases c' with
              | succ c' =>
                cases b2 with
                | true =>
                  have HS : Hid (st (kws kd tx) D s (s + (k + 1)) = ⟨c', bt, cuts, false⟩) := by
                    show _ = _
                    rw [HU.out]
                    simp [upd, k1.out, k2.out]
                  clear HU
                  go_wp2_with (first | (go_at_call 10; refine (kw_any _ _ _ _ _ hsz (by decide)).mono ?_; rintro e' wn ⟨rfl, hbn⟩; have hj := hj.below hbn; have t0 := hj.t0; have t1 := hj.t1; have t2 := hj.t2; clear hbn))
                  go_roundw
                  case rel => exact ⟨k + 1, _, _, _, by omega, HS.out, by go_num, by go_num, rfl, hj.back⟩
                  case measure => simp [intOf]; omega
                | false =>
                  have HS : Hid (st (kws kd tx) D s (s + (k + 1)) = ⟨c' + 1, bt, cuts, false⟩) := by
                    show _ = _
                    rw [HU.out]
                    simp [upd, k1.out, k2.out]
                  clear HU
                  go_wp2_with (first | (go_at_call 10; refine (kw_any _ _ _ _ _ hsz (by decide)).mono ?_; rintro e' wn ⟨rfl, hbn⟩; have hj := hj.below hbn; have t0 := hj.t0; have t1 := hj.t1; have t2 := hj.t2; clear hbn))
                  go_roundw
                  case rel => exact ⟨k + 1, _, _, _, by omega, HS.out, by go_num, rfl, rfl, hj.back⟩
                  case measure => simp [intOf]; omega
              | zero =>
                cases b3 with
                | true =>
                  have HS : Hid ((st (kws kd tx) D s (s + (k + 1))).orr = true) := by
                    show _ = _
                    rw [HU.out]
                    simp [upd, k1.out, k3.out]
                  have HO : Hid ((st (kws kd tx) D s e).orr = true) := by
                    have h := st_or (kws kd tx) D s (s + (k + 1)) (by omega) HS.out (e - (s + (k + 1)))
                    rw [show s + (k + 1) + (e - (s + (k + 1))) = e by omega] at h
                    exact h
                  clear HU HS
                  go_wp2_with (first | (go_at_call 10; refine (kw_any _ _ _ _ _ hsz (by decide)).mono ?_; rintro e' wn ⟨rfl, hbn⟩; have hj := hj.below hbn; have t0 := hj.t0; have t1 := hj.t1; have t2 := hj.t2; clear hbn))
                  go_ret
                  have hc : conj (kws kd tx) D s e = [(s, e)] := by unfold conj; rw [if_pos HO.out]
                  have hbw : w.heap.size ≤ wn.heap.size := by have := hj.lt; have := hj.bt; omega
                  rw [hc]
                  exact ⟨_, rfl, World.ownsRow_lit wn #[.int .i64 (s : Int), .int .i64 (e : Int)] 1 hbw (by decide) rfl, hj.bel.alloc hbw _⟩
                | false =>
                  cases b4 with
                  | true =>
                    have HS : Hid (st (kws kd tx) D s (s + (k + 1)) = ⟨0, true, cuts, false⟩) := by
                      show _ = _
                      rw [HU.out]
                      simp [upd, k1.out, k3.out, k4.out]
                    clear HU
                    go_wp2_with (first | (go_at_call 10; refine (kw_any _ _ _ _ _ hsz (by decide)).mono ?_; rintro e' wn ⟨rfl, hbn⟩; have hj := hj.below hbn; have t0 := hj.t0; have t1 := hj.t1; have t2 := hj.t2; clear hbn))
                    go_roundw
                    case rel => exact ⟨k + 1, _, _, _, by omega, HS.out, by go_num, rfl, rfl, hj.back⟩
                    case measure => simp [intOf]; omega
                  | false =>
                    cases b5 with
                    | false =>
                      have HS : Hid (st (kws kd tx) D s (s + (k + 1)) = ⟨0, bt, cuts, false⟩) := by
                        show _ = _
                        rw [HU.out]
                        simp [upd, k1.out, k3.out, k4.out, k5.out]
                      clear HU
                      go_wp2_with (first | (go_at_call 10; refine (kw_any _ _ _ _ _ hsz (by decide)).mono ?_; rintro e' wn ⟨rfl, hbn⟩; have hj := hj.below hbn; have t0 := hj.t0; have t1 := hj.t1; have t2 := hj.t2; clear hbn))
                      go_roundw
                      case rel => exact ⟨k + 1, _, _, _, by omega, HS.out, by go_num, rfl, rfl, hj.back⟩
                      case measure => simp [intOf]; omega
                    | true =>
                      cases bt with
                      | true =>
                        have HS : Hid (st (kws kd tx) D s (s + (k + 1)) = ⟨0, false, cuts, false⟩) := by
                          show _ = _
                          rw [HU.out]
                          simp [upd, k1.out, k3.out, k4.out, k5.out]
                        clear HU
                        go_wp2_with (first | (go_at_call 10; refine (kw_any _ _ _ _ _ hsz (by decide)).mono ?_; rintro e' wn ⟨rfl, hbn⟩; have hj := hj.below hbn; have t0 := hj.t0; have t1 := hj.t1; have t2 := hj.t2; clear hbn))
                        go_roundw
                        case rel => exact ⟨k + 1, _, _, _, by omega, HS.out, by go_num, rfl, rfl, hj.back⟩
                        case measure => simp [intOf]; omega
                      | false =>
                        have HS : Hid (st (kws kd tx) D s (s + (k + 1)) = ⟨0, false, cuts ++ [s + k], false⟩) := by
                          show _ = _
                          rw [HU.out]
                          simp [upd, k1.out, k3.out, k4.out, k5.out]
                        clear HU
                        go_wp2_with (first | (go_at_call 10; refine (kw_any _ _ _ _ _ hsz (by decide)).mono ?_; rintro e' wn ⟨rfl, hbn⟩; have hj := hj.below hbn; have t0 := hj.t0; have t1 := hj.t1; have t2 := hj.t2; clear hbn) | (at_builtin; refine wpList_append_own _ rfl _ _ 40 rfl (w.heap.size + 1) 3 i3 (.int .i64 0) 1 8 Try.underlying40 hi3 hz30 hz31 hz32 rfl (by decide) _ _ _ rfl (hj.own.alloc _) ⟨wn.heap.size, 0, none⟩ 1 1 [.int .i64 ((s : Int) + (k : Int))] rfl rfl (cell_one_new _ _ _) (by simp [Value.oneCell']) (by unfold maxLen; omega) (by omega) (by have := hj.lt; have := hj.bt; simp; omega) ?_; intro v' wp hown' hgrow _; rw [show ((s : Int) + (k : Int)) = ((s + k : Nat) : Int) by omega] at hown'; have hj := hj.back.appended hown' hgrow; obtain ⟨g', cap', rfl⟩ := ownsRow_succ hown'; clear hown' hgrow))
                        go_roundw
                        case rel => exact ⟨k + 1, _, _, _, by omega, HS.out, by go_num, rfl, rfl, hj⟩
                        case measure => simp [intOf]; omega
          · as_aux_lemma =>
            rw [decide_eq_false hdz] at hvc
            have HS : Hid (st (kws kd tx) D s (s + (k + 1)) = ⟨c', bt, cuts, false⟩) := by
              show _ = _
              rw [← Nat.add_assoc, st_succ (kws kd tx) D s (s + k) (by omega), if_neg hdz, hst]
            clear hst hdz hD hT hts hins
            go_wp2
            go_roundw
            case rel => exact ⟨k + 1, _, _, _, by omega, HS.out, by go_num, rfl, rfl, hM⟩
            case measure => simp [intOf]; omega
        · as_aux_lemma =>
          obtain rfl : N = k := by omega
          have heN : s + N = e := by omega
          rw [heN] at hst hins
          have hlast := inside_lt hins
          obtain ⟨hn1, hn2⟩ := hins.nextS
          obtain ⟨av, vc, rfl, hCu⟩ := own_cuts hM.own
          have hbel := hM.bel
          have hrl := hM.row.lt
          have hcj : conj (kws kd tx) D s e = terms s cuts ++ (if nextS s cuts < e then [(nextS s cuts, e)] else []) := by unfold conj; rw [hst]; simp
          have HCJ : Hid (conj (kws kd tx) D s e = terms s cuts ++ (if nextS s cuts < e then [(nextS s cuts, e)] else [])) := hcj
          have HLT : Hid (∀ j, j < cuts.length → s ≤ cuts.getD j 0 ∧ cuts.getD j 0 < e) := hlast
          have hml : cuts.length ≤ 32768 := by omega
          clear hst hins hcj hlast hD hT hts hM hlenc hcl
          generalize hm : cuts.length = m at *
          have HM : Hid (cuts.length = m) := hm
          clear hm
          generalize wr = wz at *
          go_wp2_with (at_make; refine wpList_make_own _ rfl _ _ 28 rfl wz.heap.size 31 i0 (.agg #[.int .i64 0, .int .i64 0]) 2 Try.underlying28 hi hz0 hz1 _ _ _ (m + 1) rfl rfl (by omega) (by rw [hz2]; omega) (by unfold maxLen; omega) (Nat.le_refl _) ?_; intro w3 hown0 hg3)
          have hb30 : Below wz.heap.size wz w3 := (Below.refl _ _).grown hg3 (Nat.le_refl _) (fun k h => by cases h)
          clear hg3
          go_loopw [18, 19, 20, 21] (fun v i _ _ wy => ∃ j : Nat, j ≤ m + 1 ∧ i = .int .i64 j ∧ wy.ownsRow wz.heap.size 31 2 v ((conj (kws kd tx) D s e).take j).length (flatS ((conj (kws kd tx) D s e).take j)) ∧ Below wz.heap.size wz wy)
            (fun _ i _ _ _ => m + 2 - (intOf i).toNat)
          case atStart => exact ⟨0, Nat.zero_le _, rfl, hown0, hb30⟩
          case round =>
            clear hown0 hb30
            obtain ⟨j, hj, rfl, hown, hb3⟩ := hrel
            have hCw := hCu.below rfl hb3
            have hlt3 : ((conj (kws kd tx) D s e).take j).length ≤ j := List.length_take_le _ _
            by_cases hjm : j < m
            · have HTK : Hid ((conj (kws kd tx) D s e).take (j + 1) = (conj (kws kd tx) D s e).take j ++ [(loOf s cuts j, cuts.getD j 0)]) := by
                refine take_step ?_
                rw [HCJ.out, List.getElem?_append_left (by rw [terms_length, HM.out]; exact hjm)]
                exact term_at cuts s j (by rw [HM.out]; exact hjm)
              obtain ⟨gc, hgc, hgl, hcc⟩ := hCw j (by rw [HM.out]; exact hjm)
              obtain ⟨hc1, hc2⟩ := HLT.out j hjm
              have hjmb : ((j : Int) == (m : Int)) = false := by simp; omega
              cases j with
              | zero => as_aux_lemma =>
                subst hgc
                have hlo : loOf s cuts 0 = s := rfl
                rw [hlo] at HTK
                generalize cuts.getD 0 0 = y at *
                generalize (conj (kws kd tx) D s e).take 0 = L0 at *
                clear hlo hCu hCw HCJ HLT
                go_wp2_with (at_builtin; refine wpList_append_own _ rfl _ _ 28 rfl wz.heap.size 31 i0 (.agg #[.int .i64 0, .int .i64 0]) 2 16 Try.underlying28 hi hz0 hz1 hz2 rfl (by decide) _ _ _ rfl (hown.alloc _) ⟨wr.heap.size, 0, none⟩ 1 1 [.int .i64 (s : Int), .int .i64 (y : Int)] rfl rfl (two_new _ _ _ _) (two_one _ _) (by unfold maxLen; omega) (by omega) (by have := hb3.size; simp; omega) ?_; intro v' wp hown' hgrow _; have hb4 : Below wz.heap.size wz wp := (hb3.alloc hb3.size _).grown hgrow (by have := hb3.size; simp; omega) (fun k h => (hown.lt k h).1); obtain ⟨g', cap', rfl⟩ := ownsRow_succ hown')
                go_roundw
                case rel =>
                  refine ⟨0 + 1, by omega, by go_num, ?_, hb4⟩
                  rw [HTK.out, flatS_append, List.length_append]
                  exact hown'
                case measure => simp [intOf] <;> omega
              | succ j => as_aux_lemma =>
                obtain ⟨gc', hgc', _, hcp⟩ := hCw j (by rw [HM.out]; omega)
                rw [hgc'] at hgc
                cases hgc
                subst hgc'
                obtain ⟨hd1, hd2⟩ := HLT.out j (by omega)
                have hlo : loOf s cuts (j + 1) = cuts.getD j 0 + 1 := rfl
                rw [hlo] at HTK
                generalize cuts.getD (j + 1) 0 = y at *
                generalize cuts.getD j 0 = x at *
                generalize (conj (kws kd tx) D s e).take (j + 1) = L0 at *
                clear hlo hCu hCw HCJ HLT
                have hx1 : ((x + 1 : Nat) : Int) = (x : Int) + 1 := by omega
                go_wp2_with (at_builtin; refine wpList_append_own _ rfl _ _ 28 rfl wz.heap.size 31 i0 (.agg #[.int .i64 0, .int .i64 0]) 2 16 Try.underlying28 hi hz0 hz1 hz2 rfl (by decide) _ _ _ rfl (hown.alloc _) ⟨wr.heap.size, 0, none⟩ 1 1 [.int .i64 ((x : Int) + 1), .int .i64 (y : Int)] rfl rfl (two_new _ _ _ _) (two_one _ _) (by unfold maxLen; omega) (by omega) (by have := hb3.size; simp; omega) ?_; intro v' wp hown' hgrow _; have hb4 : Below wz.heap.size wz wp := (hb3.alloc hb3.size _).grown hgrow (by have := hb3.size; simp; omega) (fun k h => (hown.lt k h).1); obtain ⟨g', cap', rfl⟩ := ownsRow_succ hown')
                go_roundw
                case rel =>
                  refine ⟨j + 1 + 1, by omega, by go_num, ?_, hb4⟩
                  rw [HTK.out, flatS_append, List.length_append]
                  rw [show flatS [(x + 1, y)] = [.int .i64 ((x : Int) + 1), .int .i64 (y : Int)] by simp [flatS]]
                  exact hown'
                case measure => simp [intOf]; omega
            · by_cases hje : j = m
              · have HJ : Hid (j = m) := hje
                have hjmb : ((j : Int) == (m : Int)) = true := by simp [hje]
                have hjle : j ≤ m := by omega
                have hnl : nextS s cuts = loOf s cuts j := by rw [nextS_lo, HM.out, hje]
                clear hje
                by_cases hj0 : 0 < j
                · as_aux_lemma =>
                  obtain ⟨j', hj'⟩ : ∃ j', j = j' + 1 := ⟨j - 1, by omega⟩
                  have hjj : (j : Int) - 1 = (j' : Int) := by omega
                  have hjm' : j' < m := by omega
                  obtain ⟨gc', hgc', _, hcp⟩ := hCw j' (by rw [HM.out]; exact hjm')
                  subst hgc'
                  obtain ⟨hd1, hd2⟩ := HLT.out j' hjm'
                  have hnl : nextS s cuts = cuts.getD j' 0 + 1 := by rw [hnl, hj']; rfl
                  clear hj'
                  by_cases hle : nextS s cuts < e
                  · have HTK : Hid ((conj (kws kd tx) D s e).take (j + 1) = (conj (kws kd tx) D s e).take j ++ [(cuts.getD j' 0 + 1, e)]) := by
                      refine take_step ?_
                      rw [HCJ.out, List.getElem?_append_right (by rw [terms_length, HM.out, HJ.out]; exact Nat.le_refl _), terms_length, HM.out, HJ.out, Nat.sub_self, if_pos hle, hnl]
                      rfl
                    rw [hnl] at hle
                    generalize cuts.getD j' 0 = x at *
                    generalize (conj (kws kd tx) D s e).take j = L0 at *
                    clear hnl hCu hCw HCJ HLT
                    go_wp2_with (at_builtin; refine wpList_append_own _ rfl _ _ 28 rfl wz.heap.size 31 i0 (.agg #[.int .i64 0, .int .i64 0]) 2 16 Try.underlying28 hi hz0 hz1 hz2 rfl (by decide) _ _ _ rfl (hown.alloc _) ⟨wr.heap.size, 0, none⟩ 1 1 [.int .i64 ((x : Int) + 1), .int .i64 (e : Int)] rfl rfl (two_new _ _ _ _) (two_one _ _) (by unfold maxLen; omega) (by omega) (by have := hb3.size; simp; omega) ?_; intro v' wp hown' hgrow _; have hb4 : Below wz.heap.size wz wp := (hb3.alloc hb3.size _).grown hgrow (by have := hb3.size; simp; omega) (fun k h => (hown.lt k h).1); obtain ⟨g', cap', rfl⟩ := ownsRow_succ hown')
                    go_roundw
                    case rel =>
                      refine ⟨j + 1, by omega, by go_num, ?_, hb4⟩
                      rw [HTK.out, flatS_append, List.length_append]
                      rw [show flatS [(x + 1, e)] = [.int .i64 ((x : Int) + 1), .int .i64 (e : Int)] by simp [flatS]]
                      exact hown'
                    case measure => simp [intOf] <;> omega
                  · have HTK : Hid ((conj (kws kd tx) D s e).take j = conj (kws kd tx) D s e) := by
                      show _ = _
                      rw [HCJ.out, if_neg hle, List.append_nil]
                      exact List.take_of_length_le (by rw [terms_length, HM.out, HJ.out]; exact Nat.le_refl _)
                    rw [hnl] at hle
                    rw [HTK.out] at hown
                    generalize cuts.getD j' 0 = x at *
                    clear hnl hCu hCw HCJ HLT HTK hlt3
                    go_wp2_with fail
                    go_ret
                    exact ⟨_, rfl, ownsRow_base_lower hown hbel.size, hbel.trans (hb3.mono hbel.size)⟩
                · as_aux_lemma =>
                  have hnl : nextS s cuts = s := by rw [hnl, show j = 0 by omega]; rfl
                  by_cases hle : nextS s cuts < e
                  · have HTK : Hid ((conj (kws kd tx) D s e).take (j + 1) = (conj (kws kd tx) D s e).take j ++ [(s, e)]) := by
                      refine take_step ?_
                      rw [HCJ.out, List.getElem?_append_right (by rw [terms_length, HM.out, HJ.out]; exact Nat.le_refl _), terms_length, HM.out, HJ.out, Nat.sub_self, if_pos hle, hnl]
                      rfl
                    rw [hnl] at hle
                    generalize (conj (kws kd tx) D s e).take j = L0 at *
                    clear hnl hCu hCw HCJ HLT
                    go_wp2_with (at_builtin; refine wpList_append_own _ rfl _ _ 28 rfl wz.heap.size 31 i0 (.agg #[.int .i64 0, .int .i64 0]) 2 16 Try.underlying28 hi hz0 hz1 hz2 rfl (by decide) _ _ _ rfl (hown.alloc _) ⟨wr.heap.size, 0, none⟩ 1 1 [.int .i64 (s : Int), .int .i64 (e : Int)] rfl rfl (two_new _ _ _ _) (two_one _ _) (by unfold maxLen; omega) (by omega) (by have := hb3.size; simp; omega) ?_; intro v' wp hown' hgrow _; have hb4 : Below wz.heap.size wz wp := (hb3.alloc hb3.size _).grown hgrow (by have := hb3.size; simp; omega) (fun k h => (hown.lt k h).1); obtain ⟨g', cap', rfl⟩ := ownsRow_succ hown')
                    go_roundw
                    case rel =>
                      refine ⟨j + 1, by omega, by go_num, ?_, hb4⟩
                      rw [HTK.out, flatS_append, List.length_append]
                      exact hown'
                    case measure => simp [intOf] <;> omega
                  · exact absurd hse (by rw [hnl] at hle; exact hle)
              · as_aux_lemma =>
                obtain rfl : j = m + 1 := by omega
                have HTK : Hid ((conj (kws kd tx) D s e).take (m + 1) = conj (kws kd tx) D s e) := by
                  refine List.take_of_length_le ?_
                  rw [HCJ.out, List.length_append, terms_length, HM.out]
                  split <;> simp
                rw [HTK.out] at hown
                clear hCu hCw HCJ HLT HTK hlt3
                go_wp2_with fail
                go_ret
                exact ⟨_, rfl, ownsRow_base_lower hown hbel.size, hbel.trans (hb3.mono hbel.size)⟩
#print axioms model_any
end Go.Proofs.Qxb6630155a
