import Derived.Test.Qxb6630155aLaw
import Derived.Lib.LazyBuf
import Derived.Deep.QuietTactic
import Derived.BigQuiet
import Derived.Deep.Cut
import Derived.Deep.CutRange
import Derived.Deep.DeepCutAuto
namespace Go.Proofs.Qxb6630155a
open Go.RowKit

theorem below_drewN (w : World) (q : Nat) : Below w.heap.size w (w.drewN q) := ⟨rfl, rfl, rfl, Nat.le_refl _, fun _ _ => rfl⟩
theorem tiled_length {an : Nat → Bool} {e : Nat} : ∀ {L : List (Nat × Nat)} {s : Nat}, Tiled an e s L → s ≤ e → L.length ≤ e - s + 1
  | [], _, _, _ => by simp
  | p :: r, s, ⟨h1, h2, h3, h4⟩, hs => by
    rcases h4 with ⟨_, rfl⟩ | ⟨h5, _, h6⟩
    · simp
    · have := tiled_length h6 (by omega)
      simp; omega

set_option maxHeartbeats 2000000 in
set_option maxRecDepth 100000 in
theorem tile_main (a : Option Addr) (n c : Nat) (kd : Nat → Int) (tx : Nat → ByteArray) (ps : Nat → Int) (s e : Int) (w : World) (hn : n ≤ maxLen) (ht : ∀ i, i < n → (tx i).size ≤ maxLen) (hT : IsToks w a n kd tx ps) (hs0 : s < e) (hs1 : 0 ≤ s ∧ e ≤ (n : Int)) :
    Calls Try.prog 4 #[.slice a n c, .int .i64 s, .int .i64 e] w fun e w' => e = .returned (.bool true) ∧ Below w.heap.size w w' := by
  go_enter Try.func4, Try.ntmps4
  go_wp2_with fail
  refine (bytes9_any a n c kd tx ps s e w hn ht hT).mono ?_
  rintro e' wA ⟨⟨r, rfl, hr⟩, hw⟩
  obtain rfl : w = wA := hw.symm
  cases r with
  | false =>
    go_wp2
    go_ret
    exact ⟨rfl, Below.refl _ _⟩
  | true =>
    obtain ⟨_, hts⟩ := hr rfl
    clear hr
    by_cases hn2 : n ≤ 32768
    · go_wp2_with fail
      go_loop [7, 8] (fun z i => ∃ (k : Nat) (q : Int), k ≤ n ∧ i = .int .i64 k ∧ z = .int .i64 q ∧ 0 ≤ q ∧ q ≤ 1048576) (fun _ i => n - (intOf i).toNat)
      case atStart => exact ⟨0, _, Nat.zero_le _, rfl, rfl, by omega, by omega⟩
      case round =>
        obtain ⟨k, q, hk, rfl, rfl, hq0, hq1⟩ := hrel
        by_cases hlt : k < n
        · as_aux_lemma =>
          obtain ⟨b, off, rfl, hbl, _, h1, _⟩ := hT k hlt
          have hsz := hts k hlt
          generalize tx k = t at h1 hsz
          clear hts hT ht hs0 hs1
          by_cases hsum : q + t.size ≤ 1048576
          · go_wp2
            go_round
            case rel => exact ⟨k + 1, _, by omega, by go_num, rfl, by omega, hsum⟩
            case measure => simp [intOf]; omega
          · go_wp2
            go_ret
            exact ⟨rfl, Below.refl _ _⟩
        · as_aux_lemma =>
          obtain ⟨s, rfl⟩ : ∃ s' : Nat, s = s' := ⟨s.toNat, by omega⟩
          obtain ⟨e, rfl⟩ : ∃ e' : Nat, e = e' := ⟨e.toNat, by omega⟩
          have hse : s < e := by omega
          have hen : e ≤ n := by omega
          have hD := dep_ok tx n s
          have hD0 := dep_start tx s
          have hA := dep_and kd tx n s
          have htile := conj_tiled (kws kd tx) (dep tx s) s e n hD0 hse hen hA
          have hwhole := conj_whole (kws kd tx) (dep tx s) s e n hD0 hse hen hA
          go_wp2_with fail
          refine (toks_any a n c kd tx ps w hn2 hT).mono ?_
          rintro e' w1 ⟨rfl, hT1, hB1⟩
          have hTo := hT.below hB1
          go_wp2_with fail
          refine (conj_any w.heap.size n n s e kd tx ps (dep tx s) w1 hn2 (by omega) hen hT1 hts hD hD0).mono ?_
          rintro e' w2 ⟨v, rfl, hown, _, hB2⟩
          obtain ⟨g, vc, rfl, hSp⟩ := spans_of hown (tiled_first htile hse).1
          have hfirst := (tiled_first htile hse).2
          have hT2 := hT1.below hB2
          have hTo2 := hTo.below hB2
          have hBw : Below w.heap.size w w2 := hB1.trans (hB2.mono hB1.size)
          have hll : (conj (kws kd tx) (dep tx s) s e).length ≤ 32769 := by have := tiled_length htile (by omega); omega
          generalize conj (kws kd tx) (dep tx s) s e = L at *
          obtain ⟨m, hm⟩ : ∃ m, L.length = m + 1 := ⟨L.length - 1, by have := (tiled_first htile hse).1; have := List.length_pos_iff.2 this; omega⟩
          have hx0 := hSp.x 0 (by omega)
          rw [hfirst] at hx0
          have HL : Hid (L.length = m + 1) := hm
          have HT : Hid (Tiled (kws kd tx).an e s L) := htile
          have HW : Hid (∀ p, p ∈ L → dep tx s p.1 = 0 ∧ s ≤ p.1 ∧ (p.1 < p.2 → conj (kws kd tx) (dep tx s) p.1 p.2 = [p])) := hwhole
          rw [hm]
          simp only [Nat.zero_mul] at hx0
          have hne0 : ((m : Int) + 1 == 0) = false := by simp; omega
          have hes : decide (e ≤ s) = false := decide_eq_false (by omega)
          have hm1 : m ≤ 32768 := by omega
          clear hown hB1 hB2 hT hTo hT1 hfirst htile hwhole hA hm hll
          go_wp2_with fail
          go_loopw [11] (fun i wr => ∃ j : Nat, j ≤ m + 1 ∧ i = .int .i64 j ∧ ∃ q, wr = w2.drewN q) (fun i _ => m + 1 - (intOf i).toNat)
          case atStart => exact ⟨0, Nat.zero_le _, rfl, 0, rfl⟩
          case round =>
            obtain ⟨j, hj, rfl, hq⟩ := hrel
            by_cases hlt2 : j < m + 1
            · as_aux_lemma =>
              obtain ⟨q1, q2, q3⟩ := tiled_bounds HT.out j (by rw [HL.out]; exact hlt2)
              have c1 : wr.cell? ⟨g, j * 2, none⟩ = some (.int .i64 (px L j : Int)) := by obtain ⟨q, rfl⟩ := hq; exact hSp.x j (by rw [HL.out]; exact hlt2)
              have c2 : wr.cell? ⟨g, j * 2 + 1, none⟩ = some (.int .i64 (py L j : Int)) := by obtain ⟨q, rfl⟩ := hq; exact hSp.y j (by rw [HL.out]; exact hlt2)
              obtain ⟨X, hX⟩ : ∃ X : Int, (px L j : Int) = X := ⟨_, rfl⟩
              obtain ⟨Y, hY⟩ : ∃ Y : Int, (py L j : Int) = Y := ⟨_, rfl⟩
              obtain ⟨S, hS⟩ : ∃ S : Int, (s : Int) = S := ⟨_, rfl⟩
              obtain ⟨E, hE⟩ : ∃ E : Int, (e : Int) = E := ⟨_, rfl⟩
              rw [hX] at c1
              rw [hY] at c2
              have d1 : decide (X < S) = false := decide_eq_false (by omega)
              have d2 : decide (Y < X) = false := decide_eq_false (by omega)
              have d3 : decide (E < Y) = false := decide_eq_false (by omega)
              have hji : (j : Int) < ((m + 1 : Nat) : Int) := by omega
              have hji2 : (j : Int) < (m : Int) + 1 := by omega
              have HQ : Hid (∃ q, wr = w2.drewN q) := hq
              rw [hS, hE]
              clear hX hY hS hE q1 q2 q3 hq hSp HW HT hT2 hTo2 hD hts ht hx0
              go_wp2
              go_quiet (fail)
              go_wp2
              go_roundw
              case rel =>
                obtain ⟨q, rfl⟩ := HQ
                exact ⟨j + 1, by omega, by go_num, _, World.drewN_drewN _ _ _⟩
              case measure => simp [intOf]; omega
            · as_aux_lemma =>
              obtain ⟨q2, rfl⟩ := hq
              have hbd := below_drewN w2 q2
              have hSp := hSp.below hbd
              have hT2 := hT2.below hbd
              have hTo2 := hTo2.below hbd
              have hBw : Below w.heap.size w (w2.drewN q2) := hBw.trans (hbd.mono hBw.size)
              clear hbd hx0
              generalize w2.drewN q2 = w3 at *
              go_wp2_with fail
              go_loopw [12] (fun i wr => ∃ j : Nat, j ≤ m ∧ i = .int .i64 j ∧ Below w3.heap.size w3 wr) (fun i _ => m + 1 - (intOf i).toNat)
              case atStart => exact ⟨0, Nat.zero_le _, rfl, Below.refl _ _⟩
              case round =>
                obtain ⟨j3, hj3, rfl, hb3⟩ := hrel
                by_cases hlt3 : j3 < m
                · as_aux_lemma =>
                  obtain ⟨q1, q2, q3⟩ := tiled_next HT.out j3 (by rw [HL.out]; omega)
                  have c1 := (hSp.below hb3).x (j3 + 1) (by rw [HL.out]; omega)
                  have c2 := (hSp.below hb3).y j3 (by rw [HL.out]; omega)
                  rw [q1] at c1
                  generalize py L j3 = y at *
                  have hyn : y < n := by omega
                  obtain ⟨bo, oo, rfl, hbl, o0, o1, o2⟩ := (hTo2.below hb3) y hyn
                  have hsz := hts y hyn
                  have hkw : kwB (kd y) (tx y) ⟨#[65, 78, 68]⟩ = true := by rw [kw_and]; exact q3
                  have cK := fun W => kw_any (kd y) (ps y) (tx y) ⟨#[65, 78, 68]⟩ W hsz (by decide)
                  rw [hkw] at cK
                  have e1 : (((y + 1 : Nat) : Int)) = (y : Int) + 1 := by omega
                  rw [e1] at c1
                  have hji : (j3 : Int) + 1 < (m : Int) + 1 := by omega
                  have hji2 : (j3 : Int) < (m : Int) + 1 := by omega
                  have hw1 : IntKind.i64.wrap ((j3 : Int) + 1) = (j3 : Int) + 1 := IntWalk.i64_in _ (by omega)
                  have hw2 : IntKind.i64.wrap ((y : Int) + 1) = (y : Int) + 1 := IntWalk.i64_in _ (by omega)
                  have hb0 : (((y : Int) + 1) != ((y : Int) + 1)) = false := by simp
                  generalize kd y = k0 at *
                  generalize tx y = t0 at *
                  generalize ps y = p0 at *
                  clear q1 q3 e1 hSp HW HT hT2 hTo2 hD hts ht hkw hsz
                  go_wp2
                  go_quiet (fail)
                  go_wp2_with (go_at_call 10; refine (cK _).mono ?_; rintro e' wk ⟨rfl, hbk⟩)
                  go_roundw
                  case rel =>
                    have R : ∃ j : Nat, j ≤ m ∧ Value.int .i64 ((j3 : Int) + 1) = .int .i64 j ∧ Below w3.heap.size w3 wk := ⟨j3 + 1, by omega, by go_num, hb3.trans ((below_drewN wr nq).mono hb3.size |>.trans (hbk.mono hb3.size))⟩
                    first
                      | exact R
                      | ((repeat apply Exists.intro); exact ⟨R, rfl⟩)
                  case measure => simp [intOf]; omega
                · as_aux_lemma =>
                  obtain rfl : m = j3 := by omega
                  have hSp := hSp.below hb3
                  have hT2 := hT2.below hb3
                  have hTo2 := hTo2.below hb3
                  have hBw : Below w.heap.size w wr := hBw.trans (hb3.mono hBw.size)
                  have c1 := hSp.x m (by rw [HL.out]; omega)
                  have c2 := hSp.y m (by rw [HL.out]; omega)
                  have hlast := tiled_last HT.out HL.out
                  have hble := (tiled_bounds HT.out m (by rw [HL.out]; omega)).2.2
                  have HX : Hid (px L m = px L m) := rfl
                  generalize px L m = xm at c1
                  generalize py L m = ym at c2 hlast hble
                  clear hb3 hj3 hlt3
                  go_upto_if 152 with fail
                  go_cut [12] (fun _ wx => Below wr.heap.size wr wx)
                  case first => as_aux_lemma =>
                    have hb1 := (Below.refl wr.heap.size wr).alloc (Nat.le_refl _) (.cells #[.int .i64 (xm : Int), .int .i64 (ym : Int)] 31)
                    rcases hlast with he | ⟨he, han⟩
                    · have hneb : ((ym : Int) != (e : Int)) = false := by simp [he]
                      clear hSp hT2 hTo2 HW HT hD hts ht
                      go_wp2
                      go_meet
                      case rel => exact (Below.refl _ _).alloc (Nat.le_refl _) _
                    · have hneb : ((ym : Int) != (e : Int)) = true := by simp; omega
                      have hyn : ym < n := by omega
                      obtain ⟨bo, oo, rfl, hbl, o0, o1, o2⟩ := (hTo2.below hb1) ym hyn
                      have hsz := hts ym hyn
                      have hkw : kwB (kd ym) (tx ym) ⟨#[65, 78, 68]⟩ = true := by rw [kw_and]; exact han
                      have cK := fun W => kw_any (kd ym) (ps ym) (tx ym) ⟨#[65, 78, 68]⟩ W hsz (by decide)
                      rw [hkw] at cK
                      obtain rfl : e = ym + 1 := by omega
                      have hne2 : ((ym : Int) != (ym : Int)) = false := by simp
                      generalize kd ym = k0 at *
                      generalize tx ym = t0 at *
                      generalize ps ym = p0 at *
                      clear hSp hT2 hTo2 HW HT hD hts ht hkw hsz han
                      go_wp2_with (go_at_call 10; refine (cK _).mono ?_; rintro e' wk ⟨rfl, hbk⟩)
                      go_meet
                      case rel => exact hb1.trans (hbk.mono (by simp))
                  case rest => as_aux_lemma =>
                    have hSp := hSp.below hcut
                    have hT2 := hT2.below hcut
                    have hBw : Below w.heap.size w wc := hBw.trans (hcut.mono hBw.size)
                    generalize wc = w5 at *
                    clear hcut hTo2 c1 c2 hlast hble
                    go_wp2_with fail
                    go_loopw [14, 15, 16] (fun i _ _ wz => ∃ j : Nat, j ≤ m + 1 ∧ i = .int .i64 j ∧ Below w5.heap.size w5 wz) (fun i _ _ _ => m + 1 - (intOf i).toNat)
                    case atStart => exact ⟨0, Nat.zero_le _, rfl, Below.refl _ _⟩
                    case round =>
                      obtain ⟨j4, hj4, rfl, hb4⟩ := hrel
                      by_cases hlt4 : j4 < m + 1
                      · as_aux_lemma =>
                        have hSp4 := hSp.below hb4
                        have hT4 := hT2.below hb4
                        have c1 := hSp4.x j4 (by rw [HL.out]; omega)
                        have c2 := hSp4.y j4 (by rw [HL.out]; omega)
                        have hpm := pair_mem L j4 (by rw [HL.out]; omega)
                        obtain ⟨hd0, hsx, hwh⟩ := HW.out _ hpm
                        obtain ⟨_, _, hye⟩ := tiled_bounds HT.out j4 (by rw [HL.out]; omega)
                        generalize px L j4 = xx at *
                        generalize py L j4 = yy at *
                        simp only at hd0 hsx hwh
                        have hjj : (j4 : Int) < (m : Int) + 1 := by omega
                        have hT5 := hT4.below ((Below.refl wr.heap.size wr).alloc (Nat.le_refl _) (.cells #[.int .i64 (xx : Int), .int .i64 (yy : Int)] 31))
                        have hb5 := hb4.alloc hb4.size (.cells #[.int .i64 (xx : Int), .int .i64 (yy : Int)] 31)
                        by_cases hxy : xx < yy
                        · have cJ := conj_any w.heap.size n n xx yy kd tx ps (dep tx s) (wr.alloc (.cells #[.int .i64 (xx : Int), .int .i64 (yy : Int)] 31)) hn2 (by omega) (by omega) hT5 hts (fun t h1 h2 => hD t (by omega) h2) hd0
                          rw [hwh hxy] at cJ
                          clear hSp hSp4 hT2 hT4 hT5 HW HT hD hts ht hwh hd0
                          go_wp2_with fail
                          refine cJ.mono ?_
                          rintro e' wk ⟨v, rfl, hown, _, hbk⟩
                          obtain ⟨g2, vc2, rfl, hS2⟩ := spans_of hown (by simp)
                          have d0 := hS2.x 0 (by simp)
                          have d1 := hS2.y 0 (by simp)
                          simp only [Nat.zero_mul, Nat.zero_add, List.length_singleton, px, py, List.getD_cons_zero] at d0 d1 ⊢
                          have f0 : wk.cell? ⟨wr.heap.size, 0, none⟩ = some (.int .i64 (xx : Int)) := (hbk.cell (p := ⟨wr.heap.size, 0, none⟩) (by simp)).trans (by rw [World.cell?_alloc_at (hn := rfl)]; rfl)
                          have f1 : wk.cell? ⟨wr.heap.size, 1, none⟩ = some (.int .i64 (yy : Int)) := (hbk.cell (p := ⟨wr.heap.size, 1, none⟩) (by simp)).trans (by rw [World.cell?_alloc_at (hn := rfl)]; rfl)
                          have g0 : ((xx : Int) != (xx : Int)) = false := by simp
                          have g1 : ((yy : Int) != (yy : Int)) = false := by simp
                          have hbf : Below w5.heap.size w5 wk := hb5.trans (hbk.mono (by have := hb4.size; simp; omega))
                          clear cJ hown hS2 hbk
                          go_wp2
                          go_quiet (fail)
                          go_wp2
                          go_roundw
                          case rel => exact ⟨j4 + 1, by omega, by go_num, hbf.trans ((below_drewN wk nq).mono hbf.size)⟩
                          case measure => simp [intOf]; omega
                        · clear hSp hSp4 hT2 hT4 hT5 HW HT hD hts ht hwh hd0
                          go_wp2
                          go_roundw
                          case rel => exact ⟨j4 + 1, by omega, by go_num, hb5⟩
                          case measure => simp [intOf]; omega
                      · as_aux_lemma =>
                        go_wp2
                        go_ret
                        exact ⟨rfl, hBw.trans (hb4.mono hBw.size)⟩
    · go_wp2
      go_ret
      exact ⟨rfl, Below.refl _ _⟩
#print axioms tile_main
end Go.Proofs.Qxb6630155a
