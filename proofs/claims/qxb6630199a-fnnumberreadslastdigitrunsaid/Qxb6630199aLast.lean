import Derived.Test.Qxb6630199aPadW
namespace Go.Proofs.Qxb6630199a
open Go.RowKit

/-- The forward scan at p: the last run of digits so far is [i, E). -/
structure Scan (k : ByteArray) (p E i : Nat) : Prop where
  ep : E ≤ p
  none : ∀ j, E ≤ j → j < p → dg k j = false
  ie : i ≤ E
  all : ∀ j, i ≤ j → j < E → dg k j = true
  stop : i = 0 ∨ dg k (i - 1) = false
  pos : E = 0 ∨ i < E
theorem Scan.start (k : ByteArray) : Scan k 0 0 0 := ⟨Nat.le_refl _, fun j _ h => absurd h (by omega), Nat.le_refl _, fun j _ h => absurd h (by omega), Or.inl rfl, Or.inl rfl⟩
theorem Scan.go {k : ByteArray} {p i : Nat} (h : Scan k p p i) (hd : dg k p = true) : Scan k (p + 1) (p + 1) i :=
  ⟨Nat.le_refl _, fun j h1 h2 => absurd h2 (by omega), by have := h.ie; omega, fun j h1 h2 => by
    by_cases e : j = p
    · subst e; exact hd
    · exact h.all j h1 (by omega), h.stop, Or.inr (by have := h.ie; omega)⟩
theorem Scan.new {k : ByteArray} {p E i : Nat} (h : Scan k p E i) (hE : E ≠ p) (hd : dg k p = true) : Scan k (p + 1) (p + 1) p :=
  ⟨Nat.le_refl _, fun j h1 h2 => absurd h2 (by omega), by omega, fun j h1 h2 => by
    obtain rfl : j = p := by omega
    exact hd, by
    have := h.ep
    exact Or.inr (h.none (p - 1) (by omega) (by omega)), Or.inr (by omega)⟩
theorem Scan.skip {k : ByteArray} {p E i : Nat} (h : Scan k p E i) (hd : dg k p = false) : Scan k (p + 1) E i :=
  ⟨by have := h.ep; omega, fun j h1 h2 => by
    by_cases e : j = p
    · subst e; exact hd
    · exact h.none j h1 (by omega), h.ie, h.all, h.stop, h.pos⟩
theorem Scan.fin {k : ByteArray} {E i E' i' : Nat} (h : Scan k k.size E i) (h' : Ends k E' i') : (E' ≤ i' → E - i = 0) ∧ (i' + 19 < E' → 19 < E - i) ∧ (i' < E' → E' ≤ i' + 19 → E - i = E' - i') := by
  have e : E = E' := by
    have h1 : E ≤ E' := by
      rcases h.pos with e | e
      · omega
      · by_cases hlt : E' < E
        · have a1 := h.all (E - 1) (by omega) (by omega)
          rw [h'.none (E - 1) (by omega) (by have := h.ep; omega)] at a1
          cases a1
        · omega
    have h2 : E' ≤ E := by
      rcases h'.last with e | e
      · omega
      · by_cases hlt : E < E'
        · rw [h.none (E' - 1) (by omega) (by have := h'.le; omega)] at e
          cases e
        · omega
    omega
  subst e
  have hle : i ≤ i' := by
    by_cases hlt : i' < i
    · rcases h.stop with e | e
      · omega
      · rw [h'.all (i - 1) (by omega) (by have := h.ie; omega)] at e
        cases e
    · omega
  refine ⟨fun hb => ?_, fun hb => by omega, fun h0 hb => ?_⟩
  · have := h'.zero hb; omega
  · by_cases hlt : i < i'
    · rcases h'.stop with e | e | e
      · omega
      · omega
      · rw [h.all (i' - 1) (by omega) (by omega)] at e
        cases e
    · omega

set_option maxHeartbeats 1000000 in
theorem bytes5_ok (k : ByteArray) (w : World) (h : (k.size : Int) ≤ 1048576) :
    Calls Try.prog 5 #[.string k] w fun e w' => e = .returned (.bool true) ∧ w' = w := by
  go_enter Try.func5, Try.ntmps5
  go_wp2
  go_ret
  exact ⟨rfl, rfl⟩
set_option maxHeartbeats 1000000 in
theorem bytes5_no (k : ByteArray) (w : World) (h : ¬ (k.size : Int) ≤ 1048576) :
    Calls Try.prog 5 #[.string k] w fun e w' => e = .returned (.bool false) ∧ w' = w := by
  go_enter Try.func5, Try.ntmps5
  go_wp2
  go_ret
  exact ⟨rfl, rfl⟩
set_option maxHeartbeats 1000000 in
theorem hasno_yes (s : ByteArray) (w : World) (hs : s.size ≤ maxLen) (h : cnt s s.size = 0) : Calls Try.prog 8 #[.string s] w fun e w' => e = .returned (.bool true) ∧ w' = w := by
  go_enter Try.func8, Try.ntmps8
  go_wp2_with fail
  refine (count_any s w hs).mono ?_
  rintro e' w1 ⟨rfl, hw⟩
  obtain rfl : w = w1 := hw.symm
  rw [h]
  go_wp2
  go_ret
  exact ⟨rfl, rfl⟩

set_option maxHeartbeats 2000000 in
set_option maxRecDepth 100000 in
theorem last_main (k : ByteArray) (w : World) (hk : (k.size : Int) ≤ 1048576) :
    Calls Try.prog 3 #[.string k] w fun e w' => e = .returned (.bool true) ∧ Below w.heap.size w w' := by
  go_enter Try.func3, Try.ntmps3
  go_wp2_with fail
  refine (bytes5_ok k w hk).mono ?_
  rintro e' w0 ⟨rfl, hw⟩
  obtain rfl : w = w0 := hw.symm
  go_wp2_with fail
  refine (zz_any k w (by omega)).mono ?_
  rintro e' w1 ⟨E, i, hE, hB, ⟨hbad, rfl⟩ | ⟨hgood, rfl⟩⟩
  · have HE : Hid (Ends k E i ∧ (E ≤ i ∨ i + 19 < E)) := ⟨⟨hE, hbad⟩⟩
    clear hE hbad
    go_wp2_with fail
    go_loop [8, 9, 10] (fun run last x => ∃ p F q r L : Nat, Scan k p F q ∧ p ≤ k.size ∧ x = .int .i64 (p : Nat) ∧ last = .int .i64 (L : Nat) ∧ run = .int .i64 (r : Nat) ∧ L = F - q ∧ r = (if F = p then F - q else 0)) (fun _ _ x => k.size - (intOf x).toNat)
    case atStart => exact ⟨0, 0, 0, 0, 0, Scan.start k, Nat.zero_le _, rfl, rfl, rfl, rfl, rfl⟩
    case round =>
      obtain ⟨p, F, q, r, L, hS, hp, rfl, rfl, rfl, hL, hr⟩ := hrel
      have HS : Hid (Scan k p F q) := ⟨hS⟩
      have HL : Hid (L = F - q) := ⟨hL⟩
      have hep := hS.ep
      have hie := hS.ie
      have hrp : r ≤ p := by rw [hr]; split <;> omega
      have hLp : L ≤ p := by omega
      by_cases hlt : p < k.size
      · have hli : (p : Int) < (k.size : Int) := by omega
        have hd := dg_eq k p hlt
        cases hdp : dg k p with
        | true => as_aux_lemma =>
          have HX : Hid (∃ q', Scan k (p + 1) (p + 1) q' ∧ r + 1 = p + 1 - q') := ⟨by
            by_cases e : F = p
            · subst e
              rw [if_pos rfl] at hr
              exact ⟨q, hS.go hdp, by omega⟩
            · rw [if_neg e] at hr
              exact ⟨p, hS.new e hdp, by omega⟩⟩
          rw [hdp] at hd
          clear hdp hr hS hL
          go_wp2_with (go_at_call 7; refine (isdig7 _ _).mono ?_; rintro e' wd ⟨rfl, hw⟩; obtain rfl : w1 = wd := hw.symm)
          go_round
          case rel =>
            obtain ⟨q', x1, x2⟩ := HX.out
            exact ⟨p + 1, p + 1, q', r + 1, r + 1, x1, by omega, by go_num, by go_num, by go_num, x2, by rw [if_pos rfl]; exact x2⟩
          case measure => simp [intOf]; omega
        | false => as_aux_lemma =>
          have HX : Hid (Scan k (p + 1) F q) := ⟨hS.skip hdp⟩
          rw [hdp] at hd
          clear hdp hr hS hL
          go_wp2_with (go_at_call 7; refine (isdig7 _ _).mono ?_; rintro e' wd ⟨rfl, hw⟩; obtain rfl : w1 = wd := hw.symm)
          go_round
          case rel => exact ⟨p + 1, F, q, 0, L, HX.out, by omega, by go_num, rfl, rfl, HL.out, by rw [if_neg (by omega)]⟩
          case measure => simp [intOf]; omega
      · have hpk : p = k.size := by omega
        rw [hpk] at hS
        clear hpk
        have hc : L = 0 ∨ 19 < L := by
          have hf := hS.fin HE.out.1
          rcases HE.out.2 with h | h
          · left; have := hf.1 h; omega
          · right; have := hf.2.1 h; omega
        clear hr hS hL
        rcases hc with hc | hc
        · as_aux_lemma =>
          subst hc
          go_wp2_with fail
          go_ret
          exact ⟨rfl, hB⟩
        · as_aux_lemma =>
          have hci : (19 : Int) < (L : Int) := by omega
          have hcz : ((L : Int) == 0) = false := by simp; omega
          go_wp2_with fail
          go_ret
          exact ⟨rfl, hB⟩
  · have HE : Hid (Ends k E i ∧ (i < E ∧ E ≤ i + 19)) := ⟨⟨hE, hgood⟩⟩
    obtain ⟨d, hd⟩ : ∃ d : Nat, (E : Int) - (i : Int) = (d : Int) := ⟨E - i, by omega⟩
    have HD : Hid (d = E - i) := ⟨by omega⟩
    have hd1 : 1 ≤ d := by omega
    have hd19 : d ≤ 19 := by omega
    have hle := hE.le
    have hj := rejoin k E i hE
    have HV : Hid (val k i (E - i) < 10 ^ d) := ⟨by rw [HD.out]; exact val_lt k i (E - i) (fun j h1 h2 => hE.all j h1 (by omega)) _ (Nat.le_refl _)⟩
    have hps : (k.extract 0 i).size = i := by rw [ByteArray.size_extract]; omega
    have hsu : (k.extract E k.size).size ≤ maxLen := by rw [ByteArray.size_extract]; unfold maxLen; omega
    have hss : ((k.extract E k.size).size : Int) ≤ 1048576 := by rw [ByteArray.size_extract]; omega
    have HC : Hid (cnt (k.extract E k.size) (k.extract E k.size).size = 0) := ⟨cnt_of_none _ _ (fun j hj => by
      rw [ByteArray.size_extract] at hj
      rw [dg, byteAt_extract (Nat.le_refl _) (by omega)]
      exact hE.none (E + j) (by omega) (by omega))⟩
    have HPL : Hid (∀ A, A + 1 = (k.extract 0 i).size → dg (k.extract 0 i) A = false) := ⟨fun A hA => by
      rw [hps] at hA
      rw [dg, byteAt_extract (by omega) (by omega), Nat.zero_add]
      rcases hE.stop with e | e | e
      · omega
      · omega
      · rw [show A = i - 1 by omega]; exact e⟩
    have hpr : ((k.extract 0 i).size : Int) ≤ 1048576 := by omega
    rw [hd]
    rw [← HD.out] at HV hj ⊢
    generalize val k i d = V at *
    generalize k.extract 0 i = pr at *
    generalize k.extract E k.size = su at *
    have hpz := padS_size V d
    have HJ : Hid (pr ++ padS V d ++ su = k) := ⟨hj⟩
    clear hE hgood hd hle hps
    go_wp2_with fail
    go_loop [8, 9, 10] (fun run last x => ∃ p F q r L : Nat, Scan k p F q ∧ p ≤ k.size ∧ x = .int .i64 (p : Nat) ∧ last = .int .i64 (L : Nat) ∧ run = .int .i64 (r : Nat) ∧ L = F - q ∧ r = (if F = p then F - q else 0)) (fun _ _ x => k.size - (intOf x).toNat)
    case atStart => exact ⟨0, 0, 0, 0, 0, Scan.start k, Nat.zero_le _, rfl, rfl, rfl, rfl, rfl⟩
    case round =>
      obtain ⟨p, F, q, r, L, hS, hp, rfl, rfl, rfl, hL, hr⟩ := hrel
      have HS : Hid (Scan k p F q) := ⟨hS⟩
      have HL : Hid (L = F - q) := ⟨hL⟩
      have hep := hS.ep
      have hie := hS.ie
      have hrp : r ≤ p := by rw [hr]; split <;> omega
      have hLp : L ≤ p := by omega
      by_cases hlt : p < k.size
      · have hli : (p : Int) < (k.size : Int) := by omega
        have hd := dg_eq k p hlt
        cases hdp : dg k p with
        | true => as_aux_lemma =>
          have HX : Hid (∃ q', Scan k (p + 1) (p + 1) q' ∧ r + 1 = p + 1 - q') := ⟨by
            by_cases e : F = p
            · subst e
              rw [if_pos rfl] at hr
              exact ⟨q, hS.go hdp, by omega⟩
            · rw [if_neg e] at hr
              exact ⟨p, hS.new e hdp, by omega⟩⟩
          rw [hdp] at hd
          clear hdp hr hS hL
          go_wp2_with (go_at_call 7; refine (isdig7 _ _).mono ?_; rintro e' wd ⟨rfl, hw⟩; obtain rfl : w1 = wd := hw.symm)
          go_round
          case rel =>
            obtain ⟨q', x1, x2⟩ := HX.out
            exact ⟨p + 1, p + 1, q', r + 1, r + 1, x1, by omega, by go_num, by go_num, by go_num, x2, by rw [if_pos rfl]; exact x2⟩
          case measure => simp [intOf]; omega
        | false => as_aux_lemma =>
          have HX : Hid (Scan k (p + 1) F q) := ⟨hS.skip hdp⟩
          rw [hdp] at hd
          clear hdp hr hS hL
          go_wp2_with (go_at_call 7; refine (isdig7 _ _).mono ?_; rintro e' wd ⟨rfl, hw⟩; obtain rfl : w1 = wd := hw.symm)
          go_round
          case rel => exact ⟨p + 1, F, q, 0, L, HX.out, by omega, by go_num, rfl, rfl, HL.out, by rw [if_neg (by omega)]⟩
          case measure => simp [intOf]; omega
      · have hpk : p = k.size := by omega
        rw [hpk] at hS
        clear hpk
        as_aux_lemma =>
        obtain rfl : L = d := by
          have hf := hS.fin HE.out.1
          have := hf.2.2 HE.out.2.1 HE.out.2.2
          have := HD.out
          omega
        clear hr hS hL HL
        have hdz : ((L : Int) == 0) = false := by simp; omega
        have hdn : ((L : Int) != (L : Int)) = false := by simp
        by_cases hpz : 0 < pr.size
        · obtain ⟨A, hA⟩ : ∃ A : Nat, (pr.size : Int) - 1 = (A : Int) := ⟨pr.size - 1, by omega⟩
          have hAl : A < pr.size := by omega
          have hAi : (A : Int) < (pr.size : Int) := by omega
          have hda := dg_eq pr A hAl
          rw [HPL.out A (by omega)] at hda
          go_wp2_with (first
            | (go_at_call 8; refine (hasno_yes su w1 hsu (HC.out)).mono ?_; rintro e' wd ⟨rfl, hw⟩; obtain rfl : w1 = wd := hw.symm)
            | (go_at_call 7; refine (isdig7 _ _).mono ?_; rintro e' wd ⟨rfl, hw⟩; obtain rfl : w1 = wd := hw.symm))
          refine (pad_any V L w1 (by omega) (by omega) HV.out).mono ?_
          rintro e' wp ⟨rfl, hbp⟩
          go_wp2_with fail
          go_ret
          exact ⟨rfl, hB.trans (hbp.mono hB.size)⟩
        · go_wp2_with (first
            | (go_at_call 8; refine (hasno_yes su w1 hsu (HC.out)).mono ?_; rintro e' wd ⟨rfl, hw⟩; obtain rfl : w1 = wd := hw.symm)
            | (go_at_call 7; refine (isdig7 _ _).mono ?_; rintro e' wd ⟨rfl, hw⟩; obtain rfl : w1 = wd := hw.symm))
          refine (pad_any V L w1 (by omega) (by omega) HV.out).mono ?_
          rintro e' wp ⟨rfl, hbp⟩
          go_wp2_with fail
          go_ret
          exact ⟨rfl, hB.trans (hbp.mono hB.size)⟩
end Go.Proofs.Qxb6630199a
