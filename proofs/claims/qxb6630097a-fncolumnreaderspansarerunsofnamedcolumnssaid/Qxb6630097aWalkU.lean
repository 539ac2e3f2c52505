import Derived.Test.Qxb6630097aUnion
import Derived.Deep.QuietTactic
import Derived.BigQuiet
namespace Go.Proofs.Qxb6630097a
open Go.RowKit

theorem rowIs_below {w w' : World} {b n : Nat} {t : TypeId} {f : Nat → Value} (h : w.rowIs b t n f) (hb : Below w.heap.size w w') : w'.rowIs b t n f := h.of_block (hb.block b h.lt)
theorem below_drewN (w : World) (q : Nat) : Below w.heap.size w (w.drewN q) := ⟨rfl, rfl, rfl, Nat.le_refl _, fun _ _ => rfl⟩

theorem shifted {w : World} {b n k : Nat} {g : Nat → Int} (h : Cols .i64 w (some ⟨b, 0, none⟩) n g) (j : Nat) (hj : k + j < n) : ∃ b' off, some (⟨b, k, none⟩ : Addr) = some ⟨b', off, none⟩ ∧ b' < w.heap.size ∧ w.cell? ⟨b', off + j, none⟩ = some (.int .i64 (g (k + j))) := by
  obtain ⟨b', off, e, hl, hc⟩ := h (k + j) hj
  cases e
  exact ⟨b, k, rfl, hl, by simpa using hc⟩

theorem new_block (w : World) (c : Array Value) (t : TypeId) : (w.alloc (.cells c t)).heap[w.heap.size]? = some (.cells c.toList.toArray t (0, 0)) := by
  rw [Array.toArray_toList]
  exact heap_alloc_new w _
theorem min_self {cs : List Value} {n : Nat} (h : cs.length = n) : cs.length = Nat.min n n := by rw [h]; exact (Nat.min_self n).symm
theorem fit_made {cs : List Value} {n : Nat} (z : Value) (_h : True) (h : cs.length = n) : 0 + cs.length ≤ (madeCells #[z] n).toList.length := by
  simp [size_madeCells, h]

set_option maxHeartbeats 2000000 in
set_option maxRecDepth 100000 in
theorem union_main (a0 : Option Addr) (len0 cap0 : Nat) (z0 : List Int) (a1 : Option Addr) (len1 cap1 : Nat) (z1 : List Int) (kk : Nat) (w : World) (w0 : IsRow .u16 w a0 len0 cap0 z0) (w1 : IsRow .i64 w a1 len1 cap1 z1)
    (hN : len0 ≤ 65536) (hn : len1 ≤ 65536) (hk : kk ≤ len1) :
    Calls Try.prog 4 #[.slice a0 len0 cap0, .slice a1 len1 cap1, .int .i64 (kk : Int)] w fun e w' => e = .returned (.bool true) ∧ Below w.heap.size w w' := by
  have hne := fun w a n c => run_neq_slice_nil_any (P := Try.prog) w 22 36 a n c 0 0 Try.underlying22
  have hne2 := fun w a n c => run_neq_slice_nil_any (P := Try.prog) w 23 3 a n c 0 0 Try.underlying23
  have hmk := run_make_row' (P := Try.prog) 22 36 (.int .u16 0) 2 Try.underlying22 Try.info36 rfl .i64 .i64 len0 (by omega) (by omega)
  have hmk2 := run_make_row' (P := Try.prog) 23 3 (.int .i64 0) 8 Try.underlying23 Try.info3 rfl .i64 .i64 len1 (by omega) (by omega)
  go_enter Try.func4, Try.ntmps4
  go_upto_if 60 with (go_at_call 13; refine (bytes4 _ _ _ _ _ _ _ _ (by omega) (by omega)).mono ?_; rintro e wA ⟨rfl, rfl⟩)
  go_cut [0] (fun s0 wc => (∃ a c, s0 = .slice a len0 c ∧ Cols .u16 wc a len0 (fun i => z0.getD i 0)) ∧ Below wA.heap.size wA wc)
  case first => as_aux_lemma =>
    rcases w0 with ⟨rfl, rfl, rfl, rfl⟩ | ⟨x, rfl, hlc, hcm, hzl, hcell, _⟩
    · go_wp2
      go_meet
      case rel => exact ⟨⟨none, 0, rfl, fun j hj => absurd hj (by omega)⟩, Below.refl _ _⟩
    · have hlz : len0 ≤ z0.length := by omega
      obtain ⟨cs, hcs⟩ : ∃ cs, cs = (z0.take len0).map (Value.int .u16) := ⟨_, rfl⟩
      have hcl : cs.length = len0 := by rw [hcs]; simp; omega
      have HC : Hid (cs = (z0.take len0).map (Value.int .u16)) := hcs
      have hb0 := (Below.refl wA.heap.size wA).alloc (Nat.le_refl _) (.cells (madeCells #[.int .u16 0] len0) 36)
      have hsrc : ∀ j v, cs[j]? = some v → (wA.alloc (.cells (madeCells #[.int .u16 0] len0) 36)).cell? (x.add j) = some v := by rw [hcs]; exact row_src hb0 hlz hcell
      have h1c : ∀ v ∈ cs, v.oneCell' = true := by rw [hcs]; exact ints_oneCell _ _
      clear hcs
      go_wp2_with (refine wpList_copy_splice rfl _ _ 22 22 rfl 36 Try.underlying22 (by kernel_rfl) _ _ _ _ _ _ rfl rfl wA.heap.size 0 (madeCells #[.int .u16 0] len0).toList 36 (new_block _ _ _) cs (min_self hcl) (fun _ => ⟨rfl, _, rfl, hsrc⟩) (fit_made _ trivial hcl) h1c wA.heap.size wA hb0 (Nat.le_refl _) ?_; intro w2 HG hB2)
      go_meet
      case rel =>
        have hg := HG.out
        rw [HC.out] at hg
        exact ⟨⟨_, len0, rfl, copied hlz hg⟩, hB2⟩
  case rest => as_aux_lemma =>
    obtain ⟨⟨a0', c0', rfl, hS⟩, hBc⟩ := hcut
    clear w0 hmk hne
    generalize wc = wB at *
    go_upto_if 69 with fail
    go_cut [1] (fun s1 wd => (∃ a, s1 = .slice a len1 len1 ∧ ((a = none ∧ len1 = 0) ∨ ∃ b, a = some ⟨b, 0, none⟩) ∧ Cols .i64 wd a len1 (fun i => z1.getD i 0)) ∧ Below wB.heap.size wB wd)
    case first => as_aux_lemma =>
      rcases w1 with ⟨rfl, rfl, rfl, rfl⟩ | ⟨x, rfl, hlc, hcm, hzl, hcell, _⟩
      · go_wp2
        go_meet
        case rel => exact ⟨⟨none, rfl, .inl ⟨rfl, rfl⟩, fun j hj => absurd hj (by omega)⟩, Below.refl _ _⟩
      · have hlz : len1 ≤ z1.length := by omega
        obtain ⟨cs, hcs⟩ : ∃ cs, cs = (z1.take len1).map (Value.int .i64) := ⟨_, rfl⟩
        have hcl : cs.length = len1 := by rw [hcs]; simp; omega
        have HC : Hid (cs = (z1.take len1).map (Value.int .i64)) := hcs
        have hb0 := (Below.refl wB.heap.size wB).alloc (Nat.le_refl _) (.cells (madeCells #[.int .i64 0] len1) 3)
        have hb00 := hBc.trans (hb0.mono hBc.size)
        have hsrc : ∀ j v, cs[j]? = some v → (wB.alloc (.cells (madeCells #[.int .i64 0] len1) 3)).cell? (x.add j) = some v := by rw [hcs]; exact row_src hb00 hlz hcell
        have h1c : ∀ v ∈ cs, v.oneCell' = true := by rw [hcs]; exact ints_oneCell _ _
        clear hcs hb00
        go_wp2_with (refine wpList_copy_splice rfl _ _ 23 23 rfl 3 Try.underlying23 (by kernel_rfl) _ _ _ _ _ _ rfl rfl wB.heap.size 0 (madeCells #[.int .i64 0] len1).toList 3 (new_block _ _ _) cs (min_self hcl) (fun _ => ⟨rfl, _, rfl, hsrc⟩) (fit_made _ trivial hcl) h1c wB.heap.size wB hb0 (Nat.le_refl _) ?_; intro w2 HG hB2)
        go_meet
        case rel =>
          have hg := HG.out
          rw [HC.out] at hg
          exact ⟨⟨_, rfl, .inr ⟨_, rfl⟩, copied hlz hg⟩, hB2⟩
    case rest => as_aux_lemma =>
      obtain ⟨⟨ac, rfl, hA, hC⟩, hBd⟩ := hcut
      generalize wc = wd at *
      have hBw : Below wA.heap.size wA wd := hBc.trans (hBd.mono hBc.size)
      have hS2 := hS.below hBd
      clear w1 hmk2 hne2 hS hBc
      generalize (fun i => z1.getD i 0) = g1 at hC
      generalize (fun i => z0.getD i 0) = g0 at hS2
      go_wp2_with fail
      go_loop [9] (fun i => ∃ k : Nat, k ≤ len1 ∧ i = .int .i64 k ∧ ∀ j, j < k → 0 ≤ g1 j ∧ g1 j < (len0 : Int)) (fun i => len1 - (intOf i).toNat)
      case atStart => exact ⟨0, Nat.zero_le _, rfl, fun j hj => absurd hj (by omega)⟩
      case round =>
        obtain ⟨k, hk1, rfl, hbd⟩ := hrel
        by_cases hlt : k < len1
        · obtain ⟨b', off', rfl, hbl, hck⟩ := hC k hlt
          have HB : Hid (∀ j, j < k → 0 ≤ g1 j ∧ g1 j < (len0 : Int)) := hbd
          obtain ⟨q, hq⟩ : ∃ q, g1 k = q := ⟨_, rfl⟩
          rw [hq] at hck
          have HQ : Hid (g1 k = q) := hq
          clear hbd hq hC hA
          by_cases hneg : q < 0
          · go_wp2
            go_ret
            exact ⟨rfl, hBw⟩
          · by_cases hbig : (len0 : Int) ≤ q
            · go_wp2
              go_ret
              exact ⟨rfl, hBw⟩
            · go_wp2
              go_round
              case rel =>
                refine ⟨k + 1, by omega, by go_num, fun j hj => ?_⟩
                by_cases e : j = k
                · subst e; rw [HQ.out]; omega
                · exact HB.out j (by omega)
              case measure => simp [intOf]; omega
        · as_aux_lemma =>
          obtain rfl : len1 = k := by omega
          clear hk1 hlt
          go_wp2_with fail
          refine (format_of a0' len0 c0' g0 wd hN hS2).mono ?_
          rintro e w6 ⟨rfl, hF, hB6⟩
          have hC6 := hC.below hB6
          have hBw6 : Below wA.heap.size wA w6 := hBw.trans (hB6.mono hBw.size)
          clear hC hS2 hBd hB6 hBw
          generalize wd.heap.size + 1 = fb at *
          generalize wd.heap.size = sb at *
          have HB : Hid (∀ j, j < len1 → 0 ≤ g1 j ∧ g1 j < (len0 : Int)) := hbd
          clear hbd
          go_wp2_with fail
          refine (reader_any fb sb len0 g0 _ len1 len1 g1 w6 hn hN hF hC6 HB.out).mono ?_
          rintro e w7 ⟨r1, rs1, rfl, hr1, hI1, hR1, hB7⟩
          have hC7 := hC6.below hB7
          have hF7 := hF.below hB7
          have hBw7 : Below wA.heap.size wA w7 := hBw6.trans (hB7.mono hBw6.size)
          clear hC6 hF hB7 hBw6 hr1
          go_upto_region 26 with fail
          go_cut [12] (fun s12 wx => (∃ r2 rs2, s12 = .pointer (some ⟨r2, 0, none⟩) ∧ IsReader wx r2 fb sb rs2 ∧ Reads len0 g1 kk rs2) ∧ Below w7.heap.size w7 wx)
          case first => as_aux_lemma =>
            rcases hA with ⟨rfl, rfl⟩ | ⟨b, rfl⟩
            · obtain rfl : kk = 0 := by omega
              go_wp2_with fail
              refine (reader_any fb sb len0 g0 _ 0 0 g1 w7 (by omega) hN hF7 hC7 (fun j hj => HB.out j (by omega))).mono ?_
              rintro e w8 ⟨r2, rs2, rfl, hr2, hI2, hR2, hB8⟩
              go_wp2_with fail
              go_meet
              case rel => exact ⟨⟨r2, rs2, rfl, hI2, hR2⟩, hB8⟩
            · go_wp2_with fail
              refine (reader_any fb sb len0 g0 _ kk len1 g1 w7 (by omega) hN hF7 (fun j hj => hC7 j (by omega)) (fun j hj => HB.out j (by omega))).mono ?_
              rintro e w8 ⟨r2, rs2, rfl, hr2, hI2, hR2, hB8⟩
              go_wp2_with fail
              go_meet
              case rel => exact ⟨⟨r2, rs2, rfl, hI2, hR2⟩, hB8⟩
          case rest => as_aux_lemma =>
            obtain ⟨⟨r2, rs2, rfl, hI2, hR2⟩, hB8⟩ := hcut
            generalize wc = w8 at *
            have hC8 := hC7.below hB8
            have hF8 := hF7.below hB8
            have hI18 := hI1.below hB8
            have hBw8 : Below wA.heap.size wA w8 := hBw7.trans (hB8.mono hBw7.size)
            clear hC7 hF7 hB8 hBw7 hI1
            go_upto_region 27 with fail
            go_cut [13] (fun s13 wx => (∃ r3 rs3, s13 = .pointer (some ⟨r3, 0, none⟩) ∧ IsReader wx r3 fb sb rs3 ∧ Reads len0 (fun j => g1 (kk + j)) (len1 - kk) rs3) ∧ Below w8.heap.size w8 wx)
            case first => as_aux_lemma =>
              rcases hA with ⟨rfl, rfl⟩ | ⟨b, rfl⟩
              · obtain rfl : kk = 0 := by omega
                go_wp2_with fail
                refine (reader_any fb sb len0 g0 _ 0 0 (fun j => g1 (0 + j)) w8 (by omega) hN hF8 (fun j hj => absurd hj (by omega)) (fun j hj => absurd hj (by omega))).mono ?_
                rintro e w9 ⟨r2, rs2, rfl, hr2, hI2, hR2, hB8⟩
                go_wp2_with fail
                go_meet
                case rel => exact ⟨⟨r2, rs2, rfl, hI2, hR2⟩, hB8⟩
              · by_cases hkl : kk = len1
                · subst hkl
                  go_wp2_with fail
                  refine (reader_any fb sb len0 g0 _ 0 0 (fun j => g1 (kk + j)) w8 (by omega) hN hF8 (fun j hj => absurd hj (by omega)) (fun j hj => absurd hj (by omega))).mono ?_
                  rintro e w9 ⟨r2, rs2, rfl, hr2, hI2, hR2, hB8⟩
                  go_wp2_with fail
                  go_meet
                  case rel => exact ⟨⟨r2, rs2, rfl, hI2, by rw [Nat.sub_self]; exact hR2⟩, hB8⟩
                · go_wp2_with fail
                  refine (reader_any fb sb len0 g0 _ (len1 - kk) (len1 - kk) (fun j => g1 (kk + j)) w8 (by omega) hN hF8 (fun j hj => shifted hC8 j (by omega)) (fun j hj => HB.out (kk + j) (by omega))).mono ?_
                  rintro e w9 ⟨r2, rs2, rfl, hr2, hI2, hR2, hB8⟩
                  go_wp2_with fail
                  go_meet
                  case rel => exact ⟨⟨r2, rs2, rfl, hI2, hR2⟩, hB8⟩
            case rest => as_aux_lemma =>
              obtain ⟨⟨r3, rs3, rfl, hI3, hR3⟩, hB9⟩ := hcut
              generalize wc = w9 at *
              have hC9 := hC8.below hB9
              have hF9 := hF8.below hB9
              have hI19 := hI18.below hB9
              have hI29 := hI2.below hB9
              have hBw9 : Below wA.heap.size wA w9 := hBw8.trans (hB9.mono hBw8.size)
              clear hC8 hF8 hB9 hBw8 hI18 hI2 hA
              have hl1 : rs1.length ≤ 65536 := Nat.le_trans hR1.len hn
              have hl2 : rs2.length ≤ 65536 := by have := hR2.len; omega
              have hl3 : rs3.length ≤ 65536 := by have := hR3.len; omega
              go_wp2_with fail
              refine (spans_of r1 fb sb rs1 w9 hl1 hI19).mono ?_
              rintro e wa ⟨rfl, hx1, hy1, hBa⟩
              have hI2a := hI29.below hBa
              go_wp2_with fail
              refine (spans_of r2 fb sb rs2 wa hl2 hI2a).mono ?_
              rintro e wb ⟨rfl, hx2, hy2, hBb⟩
              have hI3b := (hI3.below hBa).below hBb
              go_wp2_with fail
              refine (spans_of r3 fb sb rs3 wb hl3 hI3b).mono ?_
              rintro e we ⟨rfl, hx3, hy3, hBe⟩
              have jx1 := rowIs_below (rowIs_below hx1 hBb) hBe
              have jy1 := rowIs_below (rowIs_below hy1 hBb) hBe
              have jx2 := rowIs_below hx2 hBe
              have jy2 := rowIs_below hy2 hBe
              have hB9e : Below w9.heap.size w9 we := (hBa.trans (hBb.mono hBa.size)).trans (hBe.mono (Nat.le_trans hBa.size hBb.size))
              have kC := hC9.below hB9e
              have kF := hF9.below hB9e
              have k1 := hI19.below hB9e
              have k2 := hI29.below hB9e
              have k3 := hI3.below hB9e
              have kB : Below wA.heap.size wA we := hBw9.trans (hB9e.mono hBw9.size)
              clear hx1 hy1 hx2 hy2 hB9e hBa hBb hBe hC9 hF9 hI19 hI29 hI3 hI2a hI3b hBw9
              generalize w9.heap.size + 1 = e1 at *
              generalize w9.heap.size = f1 at *
              generalize wa.heap.size + 1 = e2 at *
              generalize wa.heap.size = f2 at *
              generalize wb.heap.size + 1 = e3 at *
              generalize wb.heap.size = f3 at *
              go_wp2_with fail
              refine (marks_any f1 e1 rs1.length rs1.length rs1.length len0 (xOf rs1) (yOf rs1) we (by omega) (by omega) (wf_of_good rs1 hR1.good) jx1 jy1).mono ?_
              rintro e wg ⟨rfl, hm1, -, hBg⟩
              have jx2' := rowIs_below jx2 hBg
              have jy2' := rowIs_below jy2 hBg
              go_wp2_with fail
              refine (marks_any f2 e2 rs2.length rs2.length rs2.length len0 (xOf rs2) (yOf rs2) wg (by omega) (by omega) (wf_of_good rs2 hR2.good) jx2' jy2').mono ?_
              rintro e wh ⟨rfl, hm2, -, hBh⟩
              have jx3' := rowIs_below (rowIs_below hx3 hBg) hBh
              have jy3' := rowIs_below (rowIs_below hy3 hBg) hBh
              go_wp2_with fail
              refine (marks_any f3 e3 rs3.length rs3.length rs3.length len0 (xOf rs3) (yOf rs3) wh (by omega) (by omega) (wf_of_good rs3 hR3.good) jx3' jy3').mono ?_
              rintro e wm ⟨rfl, hm3, -, hBm⟩
              have hBgh := hBg.trans (hBh.mono hBg.size)
              have hBem : Below we.heap.size we wm := hBgh.trans (hBm.mono hBgh.size)
              have n1 := rowIs_below (rowIs_below hm1 hBh) hBm
              have n2 := rowIs_below hm2 hBm
              have jye1 := rowIs_below jy1 hBem
              have jye2 := rowIs_below jy2 hBem
              have jye3 := rowIs_below hy3 hBem
              have mC := kC.below hBem
              have mF := kF.below hBem
              have m1 := k1.below hBem
              have m2 := k2.below hBem
              have m3 := k3.below hBem
              have mB : Below wA.heap.size wA wm := kB.trans (hBem.mono kB.size)
              clear jx1 jy1 jx2 jy2 hx3 hy3 jx2' jy2' jx3' jy3' hm1 hm2 hBem hBgh hBg hBh hBm kC kF k1 k2 k3 kB
              generalize we.heap.size = b1 at *
              generalize wg.heap.size = b2 at *
              generalize wh.heap.size = b3 at *
              have hu := union_in hk hR1 hR2 hR3
              have hcu := cov_union hu
              have hul := union_last hR1.good hR2.good hR3.good hu
              have HU : Hid (∀ j, In j rs1 ↔ In j rs2 ∨ In j rs3) := hu
              have HC : Hid (∀ j, cov (xOf rs1) (yOf rs1) rs1.length j = (cov (xOf rs2) (yOf rs2) rs2.length j || cov (xOf rs3) (yOf rs3) rs3.length j)) := hcu
              have HL : Hid (lastE rs2 ≤ lastE rs1 ∧ lastE rs3 ≤ lastE rs1 ∧ (lastE rs1 = lastE rs2 ∨ lastE rs1 = lastE rs3)) := hul
              clear hu hcu hul
              go_wp2_with fail
              go_loopw [27] (fun i wr => ∃ k : Nat, k ≤ len0 ∧ i = .int .i64 k ∧ ∃ q, wr = wm.drewN q) (fun i _ => len0 - (intOf i).toNat)
              case atStart => exact ⟨0, Nat.zero_le _, rfl, 0, rfl⟩
              case round =>
                obtain ⟨k, hk1, rfl, hq⟩ := hrel
                by_cases hlt : k < len0
                · have c1 : wr.cell? ⟨b1, k, none⟩ = some (.bool (cov (xOf rs1) (yOf rs1) rs1.length k)) := by obtain ⟨q, rfl⟩ := hq; exact n1.cell hlt
                  have c2 : wr.cell? ⟨b2, k, none⟩ = some (.bool (cov (xOf rs2) (yOf rs2) rs2.length k)) := by obtain ⟨q, rfl⟩ := hq; exact n2.cell hlt
                  have c3 : wr.cell? ⟨b3, k, none⟩ = some (.bool (cov (xOf rs3) (yOf rs3) rs3.length k)) := by obtain ⟨q, rfl⟩ := hq; exact hm3.cell hlt
                  rw [HC.out k] at c1
                  generalize cov (xOf rs2) (yOf rs2) rs2.length k = v2 at c1 c2
                  generalize cov (xOf rs3) (yOf rs3) rs3.length k = v3 at c1 c3
                  have hki : (k : Int) < (len0 : Int) := by omega
                  have HQ : Hid (∃ q, wr = wm.drewN q) := hq
                  clear hq n1 n2 hm3 jye1 jye2 jye3 mC mF m1 m2 m3
                  cases v2 <;> cases v3
                  all_goals as_aux_lemma =>
                    simp only [Bool.or_self, Bool.or_true, Bool.or_false] at c1
                    go_wp2
                    go_quiet (fail)
                    go_wp2
                    go_roundw
                    case rel =>
                      obtain ⟨q, rfl⟩ := HQ
                      exact ⟨k + 1, by omega, by go_num, _, World.drewN_drewN _ _ _⟩
                    case measure => simp [intOf]; omega
                · as_aux_lemma =>
                  clear hk1
                  obtain ⟨q, rfl⟩ := hq
                  have hbd := below_drewN wm q
                  have jye1 := rowIs_below jye1 hbd
                  have jye2 := rowIs_below jye2 hbd
                  have jye3 := rowIs_below jye3 hbd
                  have n1 := rowIs_below n1 hbd
                  have mC := mC.below hbd
                  have mF := mF.below hbd
                  have m1 := m1.below hbd
                  have m2 := m2.below hbd
                  have m3 := m3.below hbd
                  have mB : Below wA.heap.size wA (wm.drewN q) := mB.trans (hbd.mono mB.size)
                  clear hbd n2 hm3
                  generalize wm.drewN q = wn at *
                  go_wp2_with fail
                  go_loop [28] (fun i => ∃ k : Nat, k ≤ len1 ∧ i = .int .i64 k) (fun i => len1 - (intOf i).toNat)
                  case atStart => exact ⟨0, Nat.zero_le _, rfl⟩
                  case round =>
                    obtain ⟨k2, hk2, rfl⟩ := hrel
                    by_cases hlt2 : k2 < len1
                    · obtain ⟨b', off', rfl, hbl, hck⟩ := mC k2 hlt2
                      obtain ⟨u0, u1⟩ := HB.out k2 hlt2
                      have hin : cov (xOf rs1) (yOf rs1) rs1.length (g1 k2).toNat = true := (cov_in _ rs1).2 ((hR1.cover _).2 ⟨k2, hlt2, by omega⟩)
                      have hcm := n1.cell (i := (g1 k2).toNat) (by omega)
                      rw [hin] at hcm
                      clear hin n1 jye1 jye2 jye3 mC mF m1 m2 m3
                      go_wp2
                      go_round
                      case rel => exact ⟨k2 + 1, by omega, by go_num⟩
                      case measure => simp [intOf]; omega
                    · as_aux_lemma =>
                      clear hk2
                      obtain ⟨p1, hp1⟩ : ∃ p1 : Nat, lastE rs1 = (p1 : Int) := ⟨(lastE rs1).toNat, by have := lastE_le hR1.good; omega⟩
                      obtain ⟨p2, hp2⟩ : ∃ p2 : Nat, lastE rs2 = (p2 : Int) := ⟨(lastE rs2).toNat, by have := lastE_le hR2.good; omega⟩
                      obtain ⟨p3, hp3⟩ : ∃ p3 : Nat, lastE rs3 = (p3 : Int) := ⟨(lastE rs3).toNat, by have := lastE_le hR3.good; omega⟩
                      have cl1 := last_of e1 rs1 rs1.length wn hl1 jye1
                      have cl2 := last_of e2 rs2 rs2.length wn hl2 jye2
                      have cl3 := last_of e3 rs3 rs3.length wn hl3 jye3
                      have cs1 := steps_of r1 fb sb len0 g0 rs1 wn hN m1 hR1.good mF
                      obtain ⟨x2, x3, x23⟩ := HL.out
                      rw [hp1] at cl1 x2 x3 x23 cs1
                      rw [hp2] at cl2 x2 x23
                      rw [hp3] at cl3 x3 x23
                      have HP2 : Hid (lastE rs2 = (p2 : Int)) := hp2
                      have HP3 : Hid (lastE rs3 = (p3 : Int)) := hp3
                      have HX : Hid ((p1 : Int) = p2 ∨ (p1 : Int) = p3) := x23
                      clear hp1 hp2 hp3 HL HU HC n1 jye1 jye2 jye3 mC x23 HB
                      go_wp2_with fail
                      refine cl1.mono ?_
                      rintro e wn1 ⟨rfl, hw1⟩
                      obtain rfl : wn = wn1 := hw1.symm
                      go_wp2_with fail
                      refine cl2.mono ?_
                      rintro e wn1 ⟨rfl, hw1⟩
                      obtain rfl : wn = wn1 := hw1.symm
                      go_wp2_with fail
                      refine cl3.mono ?_
                      rintro e wn1 ⟨rfl, hw1⟩
                      obtain rfl : wn = wn1 := hw1.symm
                      go_wp2_with fail
                      refine cs1.mono ?_
                      rintro e wq ⟨pp, hpp, rfl, _, hBq⟩
                      obtain rfl : pp = p1 := by omega
                      clear hpp cs1 cl1 cl2 cl3
                      have m2q := m2.below hBq
                      have mFq := mF.below hBq
                      have cs2 := steps_of r2 fb sb len0 g0 rs2 wq hN m2q hR2.good mFq
                      rw [HP2.out] at cs2
                      go_wp2_with fail
                      refine cs2.mono ?_
                      rintro e wr2 ⟨pp2, hpp, rfl, _, hBr⟩
                      obtain rfl : pp2 = p2 := by omega
                      clear hpp cs2
                      have m3q := (m3.below hBq).below hBr
                      have mFr := mFq.below hBr
                      have cs3 := steps_of r3 fb sb len0 g0 rs3 wr2 hN m3q hR3.good mFr
                      rw [HP3.out] at cs3
                      go_wp2_with fail
                      refine cs3.mono ?_
                      rintro e wt ⟨pp3, hpp, rfl, _, hBt⟩
                      obtain rfl : pp3 = p3 := by omega
                      clear hpp cs3
                      have hBqr := hBq.trans (hBr.mono hBq.size)
                      have hfin : Below wA.heap.size wA wt := mB.trans ((hBqr.trans (hBt.mono hBqr.size)).mono mB.size)
                      clear hBqr hBq hBr hBt m2q m3q mFq mFr m1 m2 m3 mF
                      by_cases h12 : (pp : Int) = pp2
                      · have h12b : ((pp : Int) != pp2) = false := by simp at h12 ⊢; exact h12
                        clear h12
                        go_wp2
                        go_ret
                        exact ⟨rfl, hfin⟩
                      · have h13 : (pp : Int) = pp3 := by
                          rcases HX.out with h | h
                          · exact absurd h h12
                          · exact h
                        have h12b : ((pp : Int) != pp2) = true := by simp at h12 ⊢; exact h12
                        have h13b : ((pp : Int) != pp3) = false := by simp at h13 ⊢; exact h13
                        clear h12 h13
                        go_wp2
                        go_ret
                        exact ⟨rfl, hfin⟩
#print axioms union_main
end Go.Proofs.Qxb6630097a
