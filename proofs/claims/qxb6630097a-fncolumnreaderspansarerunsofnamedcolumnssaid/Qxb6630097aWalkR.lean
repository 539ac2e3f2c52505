import Derived.Test.Qxb6630097aWalkU
import Derived.Test.Qxb6630097aRuns
import Derived.Lib.Builder
namespace Go.Proofs.Qxb6630097a
open Go.RowKit

theorem bytes3 (a0 a1 : Option Addr) (l0 c0 l1 c1 : Nat) (w : World) (h0 : l0 ≤ 1048576) (h1 : l0 + l1 ≤ 1048576) :
    Calls Try.prog 5 #[.slice a0 l0 c0, .slice a1 l1 c1] w fun e w' => e = .returned (.bool true) ∧ w' = w := by
  go_enter Try.func5, Try.ntmps5
  go_wp2
  go_ret
  exact ⟨rfl, rfl⟩
theorem bytes3_no (a0 a1 : Option Addr) (l0 c0 l1 c1 : Nat) (w : World) (h0 : l0 ≤ maxLen) (h1 : l1 ≤ maxLen) (h : ¬ l0 + l1 ≤ 1048576) :
    Calls Try.prog 5 #[.slice a0 l0 c0, .slice a1 l1 c1] w fun e w' => e = .returned (.bool false) ∧ w' = w := by
  unfold maxLen at h0 h1
  by_cases hl : l0 ≤ 1048576
  · by_cases hl1 : l1 ≤ 1048576
    · go_enter Try.func5, Try.ntmps5
      go_wp2
      go_ret
      exact ⟨rfl, rfl⟩
    · go_enter Try.func5, Try.ntmps5
      go_wp2
      go_ret
      exact ⟨rfl, rfl⟩
  · go_enter Try.func5, Try.ntmps5
    go_wp2
    go_ret
    exact ⟨rfl, rfl⟩

/-- ZZformat. -/
theorem zzformat_of (r fb sb : Nat) (rs : List (Int × Int)) (w : World) (hI : IsReader w r fb sb rs) : Calls Try.prog 8 #[.pointer (some ⟨r, 0, none⟩)] w fun e w' => e = .returned (.pointer (some ⟨fb, 0, none⟩)) ∧ w' = w := by
  have hc := hI.c0
  clear hI
  go_enter Try.func8, Try.ntmps8
  go_wp2
  go_ret
  exact ⟨rfl, rfl⟩

theorem Try.info44' : ∃ j, Try.prog.info? 44 = some j := Option.isSome_iff_exists.1 (by kernel_rfl)
/-- Is j among the first k columns? -/
def mk (g : Nat → Int) (k : Nat) (j : Nat) : Bool := decide (∃ i, i < k ∧ g i = (j : Int))
theorem mk_zero (g : Nat → Int) (j : Nat) : mk g 0 j = false := by simp [mk]
theorem mk_succ (g : Nat → Int) (k j c : Nat) (hc : g k = (c : Int)) : (if j = c then Value.bool true else .bool (mk g k j)) = .bool (mk g (k + 1) j) := by
  by_cases e : j = c
  · subst e
    rw [if_pos rfl]
    have : mk g (k + 1) j = true := by simp only [mk, decide_eq_true_eq]; exact ⟨k, by omega, hc⟩
    rw [this]
  · rw [if_neg e]
    congr 1
    simp only [mk, decide_eq_decide]
    constructor
    · rintro ⟨i, hi, h⟩; exact ⟨i, by omega, h⟩
    · rintro ⟨i, hi, h⟩
      by_cases e2 : i = k
      · subst e2; exact absurd (by omega) e
      · exact ⟨i, by omega, h⟩
theorem mk_cov {N n : Nat} {g : Nat → Int} {rs : List (Int × Int)} (h : Reads N g n rs) (j : Nat) : mk g n j = cov (xOf rs) (yOf rs) rs.length j := by
  rw [Bool.eq_iff_iff, cov_in, h.cover]
  simp [mk]

theorem own_cols {w : World} {B m : Nat} {v : Value} {x : Nat → Int} (h : w.ownsRow B 3 1 v m ((upto x m).map (Value.int .i64))) : ∃ a c, v = .slice a m c ∧ Cols .i64 w a m x := by
  rcases h.2 with ⟨rfl, rfl⟩ | ⟨g, cap, cur, rfl, hb, hg, h1, h2, h3, h4⟩
  · exact ⟨none, 0, rfl, fun j hj => absurd hj (by omega)⟩
  · refine ⟨_, _, rfl, fun j hj => ⟨g, 0, rfl, (Array.getElem?_eq_some_iff.1 hg).1, ?_⟩⟩
    rw [Nat.zero_add, h.cellAt j (by omega)]
    simp [upto, hj]

/-- zzLastEnd of a list. -/
theorem last_cols (a : Option Addr) (rs : List (Int × Int)) (cap : Nat) (w : World) (hn : rs.length ≤ 65536) (h : Cols .i64 w a rs.length (yOf rs)) :
    Calls Try.prog 11 #[.slice a rs.length cap] w fun e w' => e = .returned (.int .i64 (lastE rs)) ∧ w' = w := by
  cases rs with
  | nil => exact last_nil _ _ _
  | cons p r =>
    have e := lastE_eq (p :: r) r.length rfl
    obtain ⟨b, off, rfl, _, hc⟩ := h r.length (by simp)
    rw [← e] at hc
    simp only [List.length_cons] at hn ⊢
    generalize lastE (p :: r) = q at *
    generalize r.length = n at *
    have h0 : (((n + 1 : Nat) : Int) == 0) = false := by simp; omega
    clear e h
    go_enter Try.func11, Try.ntmps11
    go_wp2
    go_ret
    exact ⟨rfl, rfl⟩

set_option maxHeartbeats 2000000 in
set_option maxRecDepth 100000 in
theorem runs_main (a0 : Option Addr) (len0 cap0 : Nat) (z0 : List Int) (a1 : Option Addr) (len1 cap1 : Nat) (z1 : List Int) (w : World) (w0 : IsRow .u16 w a0 len0 cap0 z0) (w1 : IsRow .i64 w a1 len1 cap1 z1)
    (hN : len0 ≤ 65536) (hn : len1 ≤ 65536) :
    Calls Try.prog 3 #[.slice a0 len0 cap0, .slice a1 len1 cap1] w fun e w' => e = .returned (.bool true) ∧ Below w.heap.size w w' := by
  have hne := fun w a n c => run_neq_slice_nil_any (P := Try.prog) w 22 36 a n c 0 0 Try.underlying22
  have hne2 := fun w a n c => run_neq_slice_nil_any (P := Try.prog) w 23 3 a n c 0 0 Try.underlying23
  have hmk := run_make_row' (P := Try.prog) 22 36 (.int .u16 0) 2 Try.underlying22 Try.info36 rfl .i64 .i64 len0 (by omega) (by omega)
  have hmk2 := run_make_row' (P := Try.prog) 23 3 (.int .i64 0) 8 Try.underlying23 Try.info3 rfl .i64 .i64 len1 (by omega) (by omega)
  go_enter Try.func3, Try.ntmps3
  go_upto_if 39 with (go_at_call 5; refine (bytes3 _ _ _ _ _ _ _ (by omega) (by omega)).mono ?_; rintro e wA ⟨rfl, rfl⟩)
  go_cut [0] (fun s0 wc => (∃ a c, s0 = .slice a len0 c ∧ Cols .u16 wc a len0 (fun i => z0.getD i 0)) ∧ Below wA.heap.size wA wc)
  case first => as_aux_lemma =>
    rcases w0 with ⟨rfl, rfl, rfl, rfl⟩ | ⟨x, rfl, hlc, hcm, hzl, hcell, _⟩
    · go_wp2
      go_meet
      case rel => exact ⟨⟨none, 0, rfl, fun j hj => absurd hj (by omega)⟩, Below.refl _ _⟩
    · have hlz : len0 ≤ z0.length := by omega
      obtain ⟨cs, hcs⟩ : ∃ cs, cs = (z0.take len0).map (Value.int .u16) := ⟨_, rfl⟩
      have hcl : cs.length = len0 := by rw [hcs]; simp; omega
      have HC : Hid (cs = (z0.take len0).map (Value.int .u16)) := hcs
      have hb0 := (Below.refl wA.heap.size wA).alloc (Nat.le_refl _) (.cells (madeCells #[.int .u16 0] len0) 36)
      have hsrc : ∀ j v, cs[j]? = some v → (wA.alloc (.cells (madeCells #[.int .u16 0] len0) 36)).cell? (x.add j) = some v := by rw [hcs]; exact row_src hb0 hlz hcell
      have h1c : ∀ v ∈ cs, v.oneCell' = true := by rw [hcs]; exact ints_oneCell _ _
      clear hcs
      go_wp2_with (refine wpList_copy_splice rfl _ _ 22 22 rfl 36 Try.underlying22 (by kernel_rfl) _ _ _ _ _ _ rfl rfl wA.heap.size 0 (madeCells #[.int .u16 0] len0).toList 36 (new_block _ _ _) cs (min_self hcl) (fun _ => ⟨rfl, _, rfl, hsrc⟩) (fit_made _ trivial hcl) h1c wA.heap.size wA hb0 (Nat.le_refl _) ?_; intro w2 HG hB2)
      go_meet
      case rel =>
        have hg := HG.out
        rw [HC.out] at hg
        exact ⟨⟨_, len0, rfl, copied hlz hg⟩, hB2⟩
  case rest => as_aux_lemma =>
    obtain ⟨⟨a0', c0', rfl, hS⟩, hBc⟩ := hcut
    clear w0 hmk hne
    generalize wc = wB at *
    go_upto_if 48 with fail
    go_cut [1] (fun s1 wd => (∃ a, s1 = .slice a len1 len1 ∧ ((a = none ∧ len1 = 0) ∨ ∃ b, a = some ⟨b, 0, none⟩) ∧ Cols .i64 wd a len1 (fun i => z1.getD i 0)) ∧ Below wB.heap.size wB wd)
    case first => as_aux_lemma =>
      rcases w1 with ⟨rfl, rfl, rfl, rfl⟩ | ⟨x, rfl, hlc, hcm, hzl, hcell, _⟩
      · go_wp2
        go_meet
        case rel => exact ⟨⟨none, rfl, .inl ⟨rfl, by first | rfl | trivial⟩, fun j hj => absurd hj (by omega)⟩, Below.refl _ _⟩
      · have hlz : len1 ≤ z1.length := by omega
        obtain ⟨cs, hcs⟩ : ∃ cs, cs = (z1.take len1).map (Value.int .i64) := ⟨_, rfl⟩
        have hcl : cs.length = len1 := by rw [hcs]; simp; omega
        have HC : Hid (cs = (z1.take len1).map (Value.int .i64)) := hcs
        have hb0 := (Below.refl wB.heap.size wB).alloc (Nat.le_refl _) (.cells (madeCells #[.int .i64 0] len1) 3)
        have hb00 := hBc.trans (hb0.mono hBc.size)
        have hsrc : ∀ j v, cs[j]? = some v → (wB.alloc (.cells (madeCells #[.int .i64 0] len1) 3)).cell? (x.add j) = some v := by rw [hcs]; exact row_src hb00 hlz hcell
        have h1c : ∀ v ∈ cs, v.oneCell' = true := by rw [hcs]; exact ints_oneCell _ _
        clear hcs hb00
        go_wp2_with (refine wpList_copy_splice rfl _ _ 23 23 rfl 3 Try.underlying23 (by kernel_rfl) _ _ _ _ _ _ rfl rfl wB.heap.size 0 (madeCells #[.int .i64 0] len1).toList 3 (new_block _ _ _) cs (min_self hcl) (fun _ => ⟨rfl, _, rfl, hsrc⟩) (fit_made _ trivial hcl) h1c wB.heap.size wB hb0 (Nat.le_refl _) ?_; intro w2 HG hB2)
        go_meet
        case rel =>
          have hg := HG.out
          rw [HC.out] at hg
          exact ⟨⟨_, rfl, .inr ⟨_, rfl⟩, copied hlz hg⟩, hB2⟩
    case rest => as_aux_lemma =>
      obtain ⟨⟨ac, rfl, hA, hC⟩, hBd⟩ := hcut
      generalize wc = wd at *
      have hBw : Below wA.heap.size wA wd := hBc.trans (hBd.mono hBc.size)
      have hS2 := hS.below hBd
      clear w1 hmk2 hne2 hS hBc
      generalize (fun i => z1.getD i 0) = g1 at hC
      generalize (fun i => z0.getD i 0) = g0 at hS2
      go_wp2_with fail
      go_loop [7] (fun i => ∃ k : Nat, k ≤ len1 ∧ i = .int .i64 k ∧ ∀ j, j < k → 0 ≤ g1 j ∧ g1 j < (len0 : Int)) (fun i => len1 - (intOf i).toNat)
      case atStart => exact ⟨0, Nat.zero_le _, rfl, fun j hj => absurd hj (by omega)⟩
      case round =>
        obtain ⟨k, hk1, rfl, hbd⟩ := hrel
        by_cases hlt : k < len1
        · obtain ⟨b', off', rfl, hbl, hck⟩ := hC k hlt
          have HB : Hid (∀ j, j < k → 0 ≤ g1 j ∧ g1 j < (len0 : Int)) := hbd
          obtain ⟨q, hq⟩ : ∃ q, g1 k = q := ⟨_, rfl⟩
          rw [hq] at hck
          have HQ : Hid (g1 k = q) := hq
          clear hbd hq hC hA
          by_cases hneg : q < 0
          · go_wp2
            go_ret
            exact ⟨rfl, hBw⟩
          · by_cases hbig : (len0 : Int) ≤ q
            · go_wp2
              go_ret
              exact ⟨rfl, hBw⟩
            · go_wp2
              go_round
              case rel =>
                refine ⟨k + 1, by omega, by go_num, fun j hj => ?_⟩
                by_cases e : j = k
                · subst e; rw [HQ.out]; omega
                · exact HB.out j (by omega)
              case measure => simp [intOf]; omega
        · as_aux_lemma =>
          obtain rfl : len1 = k := by omega
          clear hk1 hlt hA
          go_wp2_with fail
          refine (format_of a0' len0 c0' g0 wd hN hS2).mono ?_
          rintro e w6 ⟨rfl, hF, hB6⟩
          have hC6 := hC.below hB6
          have hS6 := hS2.below hB6
          have hBw6 : Below wA.heap.size wA w6 := hBw.trans (hB6.mono hBw.size)
          clear hC hS2 hBd hB6 hBw
          generalize wd.heap.size + 1 = fb at *
          generalize wd.heap.size = sb at *
          have HB : Hid (∀ j, j < len1 → 0 ≤ g1 j ∧ g1 j < (len0 : Int)) := hbd
          clear hbd
          go_wp2_with fail
          refine (reader_any fb sb len0 g0 _ len1 len1 g1 w6 hn hN hF hC6 HB.out).mono ?_
          rintro e w7 ⟨r1, rs1, rfl, hr1, hI1, hR1, hB7⟩
          have hC7 := hC6.below hB7
          have hS7 := hS6.below hB7
          have hF7 := hF.below hB7
          have hBw7 : Below wA.heap.size wA w7 := hBw6.trans (hB7.mono hBw6.size)
          clear hC6 hS6 hF hB7 hBw6 hr1
          have hmk3 := run_make_row' (P := Try.prog) 30 4 (.bool false) 1 Try.underlying30 Try.info4 rfl .i64 .i64 len0 (by omega) (by omega)
          have hpn := fun w => Lib.run_neq_ptr_same (P := Try.prog) (w := w) (tp := 25) ⟨fb, 0, none⟩ Try.underlying25 Try.info44'.choose_spec
          have cF := zzformat_of r1 fb sb rs1 w7 hI1
          go_wp2_with fail
          refine cF.mono ?_
          rintro e w7' ⟨rfl, hw⟩
          obtain rfl : w7 = w7' := hw.symm
          clear cF
          go_wp2_with fail
          go_loopw [11] (fun i wr => ∃ k : Nat, k ≤ len1 ∧ i = .int .i64 k ∧ wr.rowIs w7.heap.size 4 len0 (fun j => .bool (mk g1 k j)) ∧ Below w7.heap.size w7 wr) (fun i _ => len1 - (intOf i).toNat)
          case atStart => exact ⟨0, Nat.zero_le _, rfl, (World.rowIs_made _ _ _ _).congr (fun j _ => by rw [mk_zero]), (Below.refl _ _).alloc (Nat.le_refl _) _⟩
          case round =>
            obtain ⟨k, hk1, rfl, hrow, hb⟩ := hrel
            by_cases hlt : k < len1
            · as_aux_lemma =>
              obtain ⟨b', off', rfl, hbl, hck0⟩ := hC7 k hlt
              have hck : wr.cell? ⟨b', off' + k, none⟩ = some (.int .i64 (g1 k)) := (hb.cell (p := ⟨b', off' + k, none⟩) hbl).trans hck0
              obtain ⟨q0, q1⟩ := HB.out k hlt
              obtain ⟨c, hc⟩ := Int.eq_ofNat_of_zero_le q0
              rw [hc] at hck q1
              have hcN : c < len0 := by omega
              have hold := hrow.cell hcN
              have hfz := hrow.frozen c
              have hfin := (hrow.set c (.bool true)).congr (g := fun j => .bool (mk g1 (k + 1) j)) (fun j _ => mk_succ g1 k j c hc)
              have hbf := hb.setCell (p := ⟨w7.heap.size, c, none⟩) (Nat.le_refl _) (.bool true)
              clear hck0 hc hrow hC7 hS7 hF7 hI1 hR1
              go_wp2
              go_roundw
              case rel => exact ⟨k + 1, by omega, by go_num, hfin, hbf⟩
              case measure => simp [intOf]; omega
            · as_aux_lemma =>
              obtain rfl : len1 = k := by omega
              clear hk1 hlt
              have hrow2 := hrow.congr (g := fun j => .bool (cov (xOf rs1) (yOf rs1) rs1.length j)) (fun j _ => by rw [mk_cov hR1])
              have hS8 := hS7.below hb
              have hF8 := hF7.below hb
              have hI8 := hI1.below hb
              have hB8 : Below wA.heap.size wA wr := hBw7.trans (hb.mono hBw7.size)
              have hl1 : rs1.length ≤ 65536 := Nat.le_trans hR1.len hn
              clear hrow hS7 hF7 hI1 hBw7 hC7 hmk3 hpn hb HB
              generalize w7.heap.size = mb at *
              go_wp2_with fail
              refine (runs_any mb len0 len0 rs1.length (xOf rs1) (yOf rs1) wr hN hl1 (wf_of_good rs1 hR1.good) hrow2).mono ?_
              rintro e w9 ⟨v1, v2, rfl, ho1, ho2, hB9⟩
              obtain ⟨va1, vc1, rfl, hX⟩ := own_cols ho1
              obtain ⟨va2, vc2, rfl, hY⟩ := own_cols ho2
              have hS9 := hS8.below hB9
              have hF9 := hF8.below hB9
              have hI9 := hI8.below hB9
              have hBw9 : Below wA.heap.size wA w9 := hB8.trans (hB9.mono hB8.size)
              clear hrow2 ho1 ho2 hB9 hS8 hF8 hI8 hB8
              go_wp2_with fail
              refine (spans_of r1 fb sb rs1 w9 hl1 hI9).mono ?_
              rintro e wa ⟨rfl, hx1, hy1, hBa⟩
              have hXa := hX.below hBa
              have hYa := hY.below hBa
              have hSa := hS9.below hBa
              have hFa := hF9.below hBa
              have hIa := hI9.below hBa
              have hBwa : Below wA.heap.size wA wa := hBw9.trans (hBa.mono hBw9.size)
              clear hX hY hS9 hF9 hI9 hBw9 hBa
              generalize w9.heap.size + 1 = e1 at *
              generalize w9.heap.size = f1 at *
              go_wp2_with fail
              go_loopw [16] (fun i wr => ∃ k : Nat, k ≤ rs1.length ∧ i = .int .i64 k ∧ ∃ q, wr = wa.drewN q) (fun i _ => rs1.length - (intOf i).toNat)
              case atStart => exact ⟨0, Nat.zero_le _, rfl, 0, rfl⟩
              case round =>
                obtain ⟨k, hk1, rfl, hq⟩ := hrel
                by_cases hlt : k < rs1.length
                · as_aux_lemma =>
                  obtain ⟨bX, oX, rfl, _, cX⟩ := hXa k hlt
                  obtain ⟨bY, oY, rfl, _, cY⟩ := hYa k hlt
                  have c1 : wr.cell? ⟨f1, k, none⟩ = some (.int .i64 (xOf rs1 k)) := by obtain ⟨q, rfl⟩ := hq; exact hx1.cell hlt
                  have c2 : wr.cell? ⟨e1, k, none⟩ = some (.int .i64 (yOf rs1 k)) := by obtain ⟨q, rfl⟩ := hq; exact hy1.cell hlt
                  have c3 : wr.cell? ⟨bX, oX + k, none⟩ = some (.int .i64 (xOf rs1 k)) := by obtain ⟨q, rfl⟩ := hq; exact cX
                  have c4 : wr.cell? ⟨bY, oY + k, none⟩ = some (.int .i64 (yOf rs1 k)) := by obtain ⟨q, rfl⟩ := hq; exact cY
                  generalize xOf rs1 k = xk at *
                  generalize yOf rs1 k = yk at *
                  have hki : (k : Int) < (rs1.length : Int) := by omega
                  have hb1 : (xk != xk) = false := by simp
                  have hb2 : (yk != yk) = false := by simp
                  have HQ : Hid (∃ q, wr = wa.drewN q) := hq
                  clear hq hx1 hy1 hXa hYa hSa hFa hIa hR1 cX cY
                  generalize rs1.length = m at *
                  go_wp2
                  go_quiet (fail)
                  go_wp2
                  go_roundw
                  case rel =>
                    obtain ⟨q, rfl⟩ := HQ
                    exact ⟨k + 1, by omega, by go_num, _, World.drewN_drewN _ _ _⟩
                  case measure => simp [intOf]; omega
                · as_aux_lemma =>
                  clear hk1
                  obtain ⟨q, rfl⟩ := hq
                  have hbd := below_drewN wa q
                  have hY2 := hYa.below hbd
                  have hS2 := hSa.below hbd
                  have hF2 := hFa.below hbd
                  have hI2 := hIa.below hbd
                  have hBw2 : Below wA.heap.size wA (wa.drewN q) := hBwa.trans (hbd.mono hBwa.size)
                  clear hXa hYa hSa hFa hIa hBwa hbd hx1 hy1
                  generalize wa.drewN q = wn at *
                  obtain ⟨p1, hp1⟩ : ∃ p1 : Nat, lastE rs1 = (p1 : Int) := ⟨(lastE rs1).toNat, by have := lastE_le hR1.good; omega⟩
                  have hp1N : p1 ≤ len0 := by have := lastE_le hR1.good; omega
                  have cl := last_cols va2 rs1 vc2 wn hl1 hY2
                  have cs := steps_of r1 fb sb len0 g0 rs1 wn hN hI2 hR1.good hF2
                  rw [hp1] at cl cs
                  clear hp1
                  go_wp2_with fail
                  refine cl.mono ?_
                  rintro e wn1 ⟨rfl, hw1⟩
                  obtain rfl : wn = wn1 := hw1.symm
                  go_wp2_with fail
                  refine cs.mono ?_
                  rintro e wq ⟨pp, hpp, rfl, hrow, hBq⟩
                  obtain rfl : pp = p1 := by omega
                  have hS3 := hS2.below hBq
                  have hBw3 : Below wA.heap.size wA wq := hBw2.trans (hBq.mono hBw2.size)
                  clear hpp cs cl hY2 hS2 hF2 hI2 hBw2 hBq
                  generalize wn.heap.size = sb2 at *
                  go_wp2_with fail
                  go_loopw [19] (fun i wr => ∃ k : Nat, k ≤ pp ∧ i = .int .i64 k ∧ ∃ q, wr = wq.drewN q) (fun i _ => pp - (intOf i).toNat)
                  case atStart => exact ⟨0, Nat.zero_le _, rfl, 0, rfl⟩
                  case round =>
                    obtain ⟨k, hk1, rfl, hq⟩ := hrel
                    by_cases hlt : k < pp
                    · as_aux_lemma =>
                      obtain ⟨bS, oS, rfl, _, cS⟩ := hS3 k (by omega)
                      have c1 : wr.cell? ⟨sb2, k, none⟩ = some (.int .u16 (g0 k)) := by obtain ⟨q, rfl⟩ := hq; exact hrow.cell hlt
                      have c2 : wr.cell? ⟨bS, oS + k, none⟩ = some (.int .u16 (g0 k)) := by obtain ⟨q, rfl⟩ := hq; exact cS
                      generalize g0 k = sk at *
                      have hki : (k : Int) < (pp : Int) := by omega
                      have hki2 : (k : Int) < (len0 : Int) := by omega
                      have hb1 : (sk != sk) = false := by simp
                      have HQ : Hid (∃ q, wr = wq.drewN q) := hq
                      clear hq hrow hS3 cS hR1
                      go_wp2
                      go_quiet (fail)
                      go_wp2
                      go_roundw
                      case rel =>
                        obtain ⟨q, rfl⟩ := HQ
                        exact ⟨k + 1, by omega, by go_num, _, World.drewN_drewN _ _ _⟩
                      case measure => simp [intOf]; omega
                    · as_aux_lemma =>
                      go_wp2
                      go_ret
                      obtain ⟨q, rfl⟩ := hq
                      exact ⟨rfl, hBw3.trans ((below_drewN wq q).mono hBw3.size)⟩
#print axioms runs_main
end Go.Proofs.Qxb6630097a
