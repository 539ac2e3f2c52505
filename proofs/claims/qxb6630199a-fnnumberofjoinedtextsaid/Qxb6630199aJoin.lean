import Derived.Test.Qxb6630199aLaw
namespace Go.Proofs.Qxb6630199a
open Go.RowKit

set_option maxHeartbeats 1000000 in
theorem bytes10_ok (a b : ByteArray) (w : World) (h : (a.size : Int) + (b.size : Int) ≤ 1048576) :
    Calls Try.prog 10 #[.string a, .string b] w fun e w' => e = .returned (.bool true) ∧ w' = w := by
  go_enter Try.func10, Try.ntmps10
  go_wp2
  go_ret
  exact ⟨rfl, rfl⟩

set_option maxHeartbeats 1000000 in
theorem bytes10_no (a b : ByteArray) (w : World) (w0 : a.size ≤ maxLen) (w1 : b.size ≤ maxLen) (h : ¬ (a.size : Int) + (b.size : Int) ≤ 1048576) :
    Calls Try.prog 10 #[.string a, .string b] w fun e w' => e = .returned (.bool false) ∧ w' = w := by
  unfold maxLen at w0 w1
  by_cases h4 : (a.size : Int) ≤ 1048576
  · by_cases h5 : (b.size : Int) ≤ 1048576
    · go_enter Try.func10, Try.ntmps10
      go_wp2
      go_ret
      exact ⟨rfl, rfl⟩
    · go_enter Try.func10, Try.ntmps10
      go_wp2
      go_ret
      exact ⟨rfl, rfl⟩
  · go_enter Try.func10, Try.ntmps10
    go_wp2
    go_ret
    exact ⟨rfl, rfl⟩

set_option maxHeartbeats 4000000 in
set_option maxRecDepth 100000 in
theorem join_main (a b : ByteArray) (w : World) (ha : (a.size : Int) ≤ 524288) (hb : (b.size : Int) ≤ 524288) :
    Calls Try.prog 4 #[.string a, .string b] w fun e w' => e = .returned (.bool true) ∧ Below w.heap.size w w' := by
  have hks : (a ++ b).size ≤ 1048576 := by rw [ByteArray.size_append]; omega
  go_enter Try.func4, Try.ntmps4
  go_wp2_with fail
  refine (bytes10_ok a b w (by omega)).mono ?_
  rintro e' w0 ⟨rfl, hw⟩
  obtain rfl : w = w0 := hw.symm
  go_wp2_with fail
  refine (zz_any (a ++ b) w hks).mono ?_
  rintro e' w1 ⟨E, i, hE, hB, ⟨hbad, rfl⟩ | ⟨hgood, rfl⟩⟩
  · have hc : cnt (a ++ b) (a ++ b).size = 0 ∨ 20 ≤ cnt (a ++ b) (a ++ b).size := by
      rcases hbad with h | h
      · exact Or.inl (hE.zeroIff.2 (hE.zero h))
      · right; have := hE.cntLe; omega
    go_wp2_with fail
    refine (count_any (a ++ b) w1 (by unfold maxLen; omega)).mono ?_
    rintro e' w2 ⟨rfl, hw⟩
    obtain rfl : w1 = w2 := hw.symm
    generalize cnt (a ++ b) (a ++ b).size = C at *
    have HE : Hid (Ends (a ++ b) E i) := ⟨hE⟩
    have HBAD : Hid (E ≤ i ∨ i + 19 < E) := ⟨hbad⟩
    clear hE hbad
    rcases hc with hc | hc
    · subst hc
      by_cases h1 : 0 < a.size
      · by_cases h2 : 0 < b.size
        · obtain ⟨A, hA⟩ : ∃ A : Nat, (a.size : Int) - 1 = (A : Int) := ⟨a.size - 1, by omega⟩
          have hAl : A < a.size := by omega
          have hAi : (A : Int) < (a.size : Int) := by omega
          have hda := dg_eq a A hAl
          cases hdp : dg a A with
          | false => as_aux_lemma =>
            rw [hdp] at hda
            have HM : Hid (a.size = 0 ∨ dg a (a.size - 1) = false ∨ dg b 0 = false) := ⟨Or.inr (Or.inl (by rw [show a.size - 1 = A by omega]; exact hdp))⟩
            clear hdp
            go_wp2_with (go_at_call 7; refine (isdig7 _ _).mono ?_; rintro e' wd ⟨rfl, hw⟩; obtain rfl : w1 = wd := hw.symm)
            refine (count_any b w1 (by unfold maxLen; omega)).mono ?_
            rintro e' w2 ⟨rfl, hw⟩
            obtain rfl : w1 = w2 := hw.symm
            by_cases hcb : 0 < cnt b b.size
            · have HNZ : Hid (∀ E i, Ends b E i → 0 < E) := ⟨fun E i h => by
                by_cases h0 : E = 0
                · have := h.zeroIff.2 h0; omega
                · omega⟩
              generalize cnt b b.size = CB at *
              have hcbi : (0 : Int) < (CB : Int) := by omega
              go_wp2_with fail
              refine (zz_any b w1 (by omega)).mono ?_
              rintro e' w3 ⟨Eb, ib, hEb, hB3, ⟨hx, rfl⟩ | ⟨hx, rfl⟩⟩
              · have HU := hEb.right (HNZ.out _ _ hEb) HM.out
                clear HU hEb hx
                go_wp2_with fail
                go_ret
                exact ⟨rfl, hB.trans (hB3.mono hB.size)⟩
              · have HU := hEb.right (HNZ.out _ _ hEb) HM.out
                exfalso
                obtain ⟨e1, e2⟩ := HE.out.unique HU
                have h1 := HBAD.out
                have h2 := hx
                omega
            · have HNZ : Hid (∀ j, j < b.size → dg b j = false) := ⟨cnt_zero b _ (by omega)⟩
              generalize cnt b b.size = CB at *
              obtain rfl : CB = 0 := by omega
              go_wp2_with fail
              refine (zz_any a w1 (by omega)).mono ?_
              rintro e' w3 ⟨Eb, ib, hEb, hB3, ⟨hx, rfl⟩ | ⟨hx, rfl⟩⟩
              · have HU := hEb.left HNZ.out
                clear HU hEb hx
                go_wp2_with fail
                go_ret
                exact ⟨rfl, hB.trans (hB3.mono hB.size)⟩
              · have HU := hEb.left HNZ.out
                exfalso
                obtain ⟨e1, e2⟩ := HE.out.unique HU
                have h1 := HBAD.out
                have h2 := hx
                omega
          | true =>
            rw [hdp] at hda
            clear hdp
            have hdb := dg_eq b 0 h2
            cases hdq : dg b 0 with
            | false => as_aux_lemma =>
              rw [hdq] at hdb
              have HM : Hid (a.size = 0 ∨ dg a (a.size - 1) = false ∨ dg b 0 = false) := ⟨Or.inr (Or.inr hdq)⟩
              clear hdq
              go_wp2_with (go_at_call 7; refine (isdig7 _ _).mono ?_; rintro e' wd ⟨rfl, hw⟩; obtain rfl : w1 = wd := hw.symm)
              refine (count_any b w1 (by unfold maxLen; omega)).mono ?_
              rintro e' w2 ⟨rfl, hw⟩
              obtain rfl : w1 = w2 := hw.symm
              by_cases hcb : 0 < cnt b b.size
              · have HNZ : Hid (∀ E i, Ends b E i → 0 < E) := ⟨fun E i h => by
                  by_cases h0 : E = 0
                  · have := h.zeroIff.2 h0; omega
                  · omega⟩
                generalize cnt b b.size = CB at *
                have hcbi : (0 : Int) < (CB : Int) := by omega
                go_wp2_with fail
                refine (zz_any b w1 (by omega)).mono ?_
                rintro e' w3 ⟨Eb, ib, hEb, hB3, ⟨hx, rfl⟩ | ⟨hx, rfl⟩⟩
                · have HU := hEb.right (HNZ.out _ _ hEb) HM.out
                  clear HU hEb hx
                  go_wp2_with fail
                  go_ret
                  exact ⟨rfl, hB.trans (hB3.mono hB.size)⟩
                · have HU := hEb.right (HNZ.out _ _ hEb) HM.out
                  exfalso
                  obtain ⟨e1, e2⟩ := HE.out.unique HU
                  have h1 := HBAD.out
                  have h2 := hx
                  omega
              · have HNZ : Hid (∀ j, j < b.size → dg b j = false) := ⟨cnt_zero b _ (by omega)⟩
                generalize cnt b b.size = CB at *
                obtain rfl : CB = 0 := by omega
                go_wp2_with fail
                refine (zz_any a w1 (by omega)).mono ?_
                rintro e' w3 ⟨Eb, ib, hEb, hB3, ⟨hx, rfl⟩ | ⟨hx, rfl⟩⟩
                · have HU := hEb.left HNZ.out
                  clear HU hEb hx
                  go_wp2_with fail
                  go_ret
                  exact ⟨rfl, hB.trans (hB3.mono hB.size)⟩
                · have HU := hEb.left HNZ.out
                  exfalso
                  obtain ⟨e1, e2⟩ := HE.out.unique HU
                  have h1 := HBAD.out
                  have h2 := hx
                  omega
            | true => as_aux_lemma =>
              rw [hdq] at hdb
              clear hdq
              go_wp2_with (go_at_call 7; refine (isdig7 _ _).mono ?_; rintro e' wd ⟨rfl, hw⟩; obtain rfl : w1 = wd := hw.symm)
              go_ret
              exact ⟨rfl, hB⟩
        · as_aux_lemma =>
          have HM : Hid (a.size = 0 ∨ dg a (a.size - 1) = false ∨ dg b 0 = false) := ⟨Or.inr (Or.inr (by
            have : b.size = 0 := by omega
            simp [dg, byteAt, this, dgI]))⟩
          go_wp2_with (go_at_call 7; refine (isdig7 _ _).mono ?_; rintro e' wd ⟨rfl, hw⟩; obtain rfl : w1 = wd := hw.symm)
          refine (count_any b w1 (by unfold maxLen; omega)).mono ?_
          rintro e' w2 ⟨rfl, hw⟩
          obtain rfl : w1 = w2 := hw.symm
          by_cases hcb : 0 < cnt b b.size
          · have HNZ : Hid (∀ E i, Ends b E i → 0 < E) := ⟨fun E i h => by
              by_cases h0 : E = 0
              · have := h.zeroIff.2 h0; omega
              · omega⟩
            generalize cnt b b.size = CB at *
            have hcbi : (0 : Int) < (CB : Int) := by omega
            go_wp2_with fail
            refine (zz_any b w1 (by omega)).mono ?_
            rintro e' w3 ⟨Eb, ib, hEb, hB3, ⟨hx, rfl⟩ | ⟨hx, rfl⟩⟩
            · have HU := hEb.right (HNZ.out _ _ hEb) HM.out
              clear HU hEb hx
              go_wp2_with fail
              go_ret
              exact ⟨rfl, hB.trans (hB3.mono hB.size)⟩
            · have HU := hEb.right (HNZ.out _ _ hEb) HM.out
              exfalso
              obtain ⟨e1, e2⟩ := HE.out.unique HU
              have h1 := HBAD.out
              have h2 := hx
              omega
          · have HNZ : Hid (∀ j, j < b.size → dg b j = false) := ⟨cnt_zero b _ (by omega)⟩
            generalize cnt b b.size = CB at *
            obtain rfl : CB = 0 := by omega
            go_wp2_with fail
            refine (zz_any a w1 (by omega)).mono ?_
            rintro e' w3 ⟨Eb, ib, hEb, hB3, ⟨hx, rfl⟩ | ⟨hx, rfl⟩⟩
            · have HU := hEb.left HNZ.out
              clear HU hEb hx
              go_wp2_with fail
              go_ret
              exact ⟨rfl, hB.trans (hB3.mono hB.size)⟩
            · have HU := hEb.left HNZ.out
              exfalso
              obtain ⟨e1, e2⟩ := HE.out.unique HU
              have h1 := HBAD.out
              have h2 := hx
              omega
      · as_aux_lemma =>
        have HM : Hid (a.size = 0 ∨ dg a (a.size - 1) = false ∨ dg b 0 = false) := ⟨Or.inl (by omega)⟩
        go_wp2_with (go_at_call 7; refine (isdig7 _ _).mono ?_; rintro e' wd ⟨rfl, hw⟩; obtain rfl : w1 = wd := hw.symm)
        refine (count_any b w1 (by unfold maxLen; omega)).mono ?_
        rintro e' w2 ⟨rfl, hw⟩
        obtain rfl : w1 = w2 := hw.symm
        by_cases hcb : 0 < cnt b b.size
        · have HNZ : Hid (∀ E i, Ends b E i → 0 < E) := ⟨fun E i h => by
            by_cases h0 : E = 0
            · have := h.zeroIff.2 h0; omega
            · omega⟩
          generalize cnt b b.size = CB at *
          have hcbi : (0 : Int) < (CB : Int) := by omega
          go_wp2_with fail
          refine (zz_any b w1 (by omega)).mono ?_
          rintro e' w3 ⟨Eb, ib, hEb, hB3, ⟨hx, rfl⟩ | ⟨hx, rfl⟩⟩
          · have HU := hEb.right (HNZ.out _ _ hEb) HM.out
            clear HU hEb hx
            go_wp2_with fail
            go_ret
            exact ⟨rfl, hB.trans (hB3.mono hB.size)⟩
          · have HU := hEb.right (HNZ.out _ _ hEb) HM.out
            exfalso
            obtain ⟨e1, e2⟩ := HE.out.unique HU
            have h1 := HBAD.out
            have h2 := hx
            omega
        · have HNZ : Hid (∀ j, j < b.size → dg b j = false) := ⟨cnt_zero b _ (by omega)⟩
          generalize cnt b b.size = CB at *
          obtain rfl : CB = 0 := by omega
          go_wp2_with fail
          refine (zz_any a w1 (by omega)).mono ?_
          rintro e' w3 ⟨Eb, ib, hEb, hB3, ⟨hx, rfl⟩ | ⟨hx, rfl⟩⟩
          · have HU := hEb.left HNZ.out
            clear HU hEb hx
            go_wp2_with fail
            go_ret
            exact ⟨rfl, hB.trans (hB3.mono hB.size)⟩
          · have HU := hEb.left HNZ.out
            exfalso
            obtain ⟨e1, e2⟩ := HE.out.unique HU
            have h1 := HBAD.out
            have h2 := hx
            omega
    · have hci : (20 : Int) ≤ (C : Int) := by omega
      have hcz : ((C : Int) == 0) = false := by simp; omega
      by_cases h1 : 0 < a.size
      · by_cases h2 : 0 < b.size
        · obtain ⟨A, hA⟩ : ∃ A : Nat, (a.size : Int) - 1 = (A : Int) := ⟨a.size - 1, by omega⟩
          have hAl : A < a.size := by omega
          have hAi : (A : Int) < (a.size : Int) := by omega
          have hda := dg_eq a A hAl
          cases hdp : dg a A with
          | false => as_aux_lemma =>
            rw [hdp] at hda
            have HM : Hid (a.size = 0 ∨ dg a (a.size - 1) = false ∨ dg b 0 = false) := ⟨Or.inr (Or.inl (by rw [show a.size - 1 = A by omega]; exact hdp))⟩
            clear hdp
            go_wp2_with (go_at_call 7; refine (isdig7 _ _).mono ?_; rintro e' wd ⟨rfl, hw⟩; obtain rfl : w1 = wd := hw.symm)
            refine (count_any b w1 (by unfold maxLen; omega)).mono ?_
            rintro e' w2 ⟨rfl, hw⟩
            obtain rfl : w1 = w2 := hw.symm
            by_cases hcb : 0 < cnt b b.size
            · have HNZ : Hid (∀ E i, Ends b E i → 0 < E) := ⟨fun E i h => by
                by_cases h0 : E = 0
                · have := h.zeroIff.2 h0; omega
                · omega⟩
              generalize cnt b b.size = CB at *
              have hcbi : (0 : Int) < (CB : Int) := by omega
              go_wp2_with fail
              refine (zz_any b w1 (by omega)).mono ?_
              rintro e' w3 ⟨Eb, ib, hEb, hB3, ⟨hx, rfl⟩ | ⟨hx, rfl⟩⟩
              · have HU := hEb.right (HNZ.out _ _ hEb) HM.out
                clear HU hEb hx
                go_wp2_with fail
                go_ret
                exact ⟨rfl, hB.trans (hB3.mono hB.size)⟩
              · have HU := hEb.right (HNZ.out _ _ hEb) HM.out
                exfalso
                obtain ⟨e1, e2⟩ := HE.out.unique HU
                have h1 := HBAD.out
                have h2 := hx
                omega
            · have HNZ : Hid (∀ j, j < b.size → dg b j = false) := ⟨cnt_zero b _ (by omega)⟩
              generalize cnt b b.size = CB at *
              obtain rfl : CB = 0 := by omega
              go_wp2_with fail
              refine (zz_any a w1 (by omega)).mono ?_
              rintro e' w3 ⟨Eb, ib, hEb, hB3, ⟨hx, rfl⟩ | ⟨hx, rfl⟩⟩
              · have HU := hEb.left HNZ.out
                clear HU hEb hx
                go_wp2_with fail
                go_ret
                exact ⟨rfl, hB.trans (hB3.mono hB.size)⟩
              · have HU := hEb.left HNZ.out
                exfalso
                obtain ⟨e1, e2⟩ := HE.out.unique HU
                have h1 := HBAD.out
                have h2 := hx
                omega
          | true =>
            rw [hdp] at hda
            clear hdp
            have hdb := dg_eq b 0 h2
            cases hdq : dg b 0 with
            | false => as_aux_lemma =>
              rw [hdq] at hdb
              have HM : Hid (a.size = 0 ∨ dg a (a.size - 1) = false ∨ dg b 0 = false) := ⟨Or.inr (Or.inr hdq)⟩
              clear hdq
              go_wp2_with (go_at_call 7; refine (isdig7 _ _).mono ?_; rintro e' wd ⟨rfl, hw⟩; obtain rfl : w1 = wd := hw.symm)
              refine (count_any b w1 (by unfold maxLen; omega)).mono ?_
              rintro e' w2 ⟨rfl, hw⟩
              obtain rfl : w1 = w2 := hw.symm
              by_cases hcb : 0 < cnt b b.size
              · have HNZ : Hid (∀ E i, Ends b E i → 0 < E) := ⟨fun E i h => by
                  by_cases h0 : E = 0
                  · have := h.zeroIff.2 h0; omega
                  · omega⟩
                generalize cnt b b.size = CB at *
                have hcbi : (0 : Int) < (CB : Int) := by omega
                go_wp2_with fail
                refine (zz_any b w1 (by omega)).mono ?_
                rintro e' w3 ⟨Eb, ib, hEb, hB3, ⟨hx, rfl⟩ | ⟨hx, rfl⟩⟩
                · have HU := hEb.right (HNZ.out _ _ hEb) HM.out
                  clear HU hEb hx
                  go_wp2_with fail
                  go_ret
                  exact ⟨rfl, hB.trans (hB3.mono hB.size)⟩
                · have HU := hEb.right (HNZ.out _ _ hEb) HM.out
                  exfalso
                  obtain ⟨e1, e2⟩ := HE.out.unique HU
                  have h1 := HBAD.out
                  have h2 := hx
                  omega
              · have HNZ : Hid (∀ j, j < b.size → dg b j = false) := ⟨cnt_zero b _ (by omega)⟩
                generalize cnt b b.size = CB at *
                obtain rfl : CB = 0 := by omega
                go_wp2_with fail
                refine (zz_any a w1 (by omega)).mono ?_
                rintro e' w3 ⟨Eb, ib, hEb, hB3, ⟨hx, rfl⟩ | ⟨hx, rfl⟩⟩
                · have HU := hEb.left HNZ.out
                  clear HU hEb hx
                  go_wp2_with fail
                  go_ret
                  exact ⟨rfl, hB.trans (hB3.mono hB.size)⟩
                · have HU := hEb.left HNZ.out
                  exfalso
                  obtain ⟨e1, e2⟩ := HE.out.unique HU
                  have h1 := HBAD.out
                  have h2 := hx
                  omega
            | true => as_aux_lemma =>
              rw [hdq] at hdb
              clear hdq
              go_wp2_with (go_at_call 7; refine (isdig7 _ _).mono ?_; rintro e' wd ⟨rfl, hw⟩; obtain rfl : w1 = wd := hw.symm)
              go_ret
              exact ⟨rfl, hB⟩
        · as_aux_lemma =>
          have HM : Hid (a.size = 0 ∨ dg a (a.size - 1) = false ∨ dg b 0 = false) := ⟨Or.inr (Or.inr (by
            have : b.size = 0 := by omega
            simp [dg, byteAt, this, dgI]))⟩
          go_wp2_with (go_at_call 7; refine (isdig7 _ _).mono ?_; rintro e' wd ⟨rfl, hw⟩; obtain rfl : w1 = wd := hw.symm)
          refine (count_any b w1 (by unfold maxLen; omega)).mono ?_
          rintro e' w2 ⟨rfl, hw⟩
          obtain rfl : w1 = w2 := hw.symm
          by_cases hcb : 0 < cnt b b.size
          · have HNZ : Hid (∀ E i, Ends b E i → 0 < E) := ⟨fun E i h => by
              by_cases h0 : E = 0
              · have := h.zeroIff.2 h0; omega
              · omega⟩
            generalize cnt b b.size = CB at *
            have hcbi : (0 : Int) < (CB : Int) := by omega
            go_wp2_with fail
            refine (zz_any b w1 (by omega)).mono ?_
            rintro e' w3 ⟨Eb, ib, hEb, hB3, ⟨hx, rfl⟩ | ⟨hx, rfl⟩⟩
            · have HU := hEb.right (HNZ.out _ _ hEb) HM.out
              clear HU hEb hx
              go_wp2_with fail
              go_ret
              exact ⟨rfl, hB.trans (hB3.mono hB.size)⟩
            · have HU := hEb.right (HNZ.out _ _ hEb) HM.out
              exfalso
              obtain ⟨e1, e2⟩ := HE.out.unique HU
              have h1 := HBAD.out
              have h2 := hx
              omega
          · have HNZ : Hid (∀ j, j < b.size → dg b j = false) := ⟨cnt_zero b _ (by omega)⟩
            generalize cnt b b.size = CB at *
            obtain rfl : CB = 0 := by omega
            go_wp2_with fail
            refine (zz_any a w1 (by omega)).mono ?_
            rintro e' w3 ⟨Eb, ib, hEb, hB3, ⟨hx, rfl⟩ | ⟨hx, rfl⟩⟩
            · have HU := hEb.left HNZ.out
              clear HU hEb hx
              go_wp2_with fail
              go_ret
              exact ⟨rfl, hB.trans (hB3.mono hB.size)⟩
            · have HU := hEb.left HNZ.out
              exfalso
              obtain ⟨e1, e2⟩ := HE.out.unique HU
              have h1 := HBAD.out
              have h2 := hx
              omega
      · as_aux_lemma =>
        have HM : Hid (a.size = 0 ∨ dg a (a.size - 1) = false ∨ dg b 0 = false) := ⟨Or.inl (by omega)⟩
        go_wp2_with (go_at_call 7; refine (isdig7 _ _).mono ?_; rintro e' wd ⟨rfl, hw⟩; obtain rfl : w1 = wd := hw.symm)
        refine (count_any b w1 (by unfold maxLen; omega)).mono ?_
        rintro e' w2 ⟨rfl, hw⟩
        obtain rfl : w1 = w2 := hw.symm
        by_cases hcb : 0 < cnt b b.size
        · have HNZ : Hid (∀ E i, Ends b E i → 0 < E) := ⟨fun E i h => by
            by_cases h0 : E = 0
            · have := h.zeroIff.2 h0; omega
            · omega⟩
          generalize cnt b b.size = CB at *
          have hcbi : (0 : Int) < (CB : Int) := by omega
          go_wp2_with fail
          refine (zz_any b w1 (by omega)).mono ?_
          rintro e' w3 ⟨Eb, ib, hEb, hB3, ⟨hx, rfl⟩ | ⟨hx, rfl⟩⟩
          · have HU := hEb.right (HNZ.out _ _ hEb) HM.out
            clear HU hEb hx
            go_wp2_with fail
            go_ret
            exact ⟨rfl, hB.trans (hB3.mono hB.size)⟩
          · have HU := hEb.right (HNZ.out _ _ hEb) HM.out
            exfalso
            obtain ⟨e1, e2⟩ := HE.out.unique HU
            have h1 := HBAD.out
            have h2 := hx
            omega
        · have HNZ : Hid (∀ j, j < b.size → dg b j = false) := ⟨cnt_zero b _ (by omega)⟩
          generalize cnt b b.size = CB at *
          obtain rfl : CB = 0 := by omega
          go_wp2_with fail
          refine (zz_any a w1 (by omega)).mono ?_
          rintro e' w3 ⟨Eb, ib, hEb, hB3, ⟨hx, rfl⟩ | ⟨hx, rfl⟩⟩
          · have HU := hEb.left HNZ.out
            clear HU hEb hx
            go_wp2_with fail
            go_ret
            exact ⟨rfl, hB.trans (hB3.mono hB.size)⟩
          · have HU := hEb.left HNZ.out
            exfalso
            obtain ⟨e1, e2⟩ := HE.out.unique HU
            have h1 := HBAD.out
            have h2 := hx
            omega
  · have hc : 1 ≤ cnt (a ++ b) (a ++ b).size := by have := hE.cntLe; omega
    go_wp2_with fail
    refine (count_any (a ++ b) w1 (by unfold maxLen; omega)).mono ?_
    rintro e' w2 ⟨rfl, hw⟩
    obtain rfl : w1 = w2 := hw.symm
    generalize cnt (a ++ b) (a ++ b).size = C at *
    have HE : Hid (Ends (a ++ b) E i) := ⟨hE⟩
    have HG : Hid (i < E ∧ E ≤ i + 19) := ⟨hgood⟩
    have hci : (1 : Int) ≤ (C : Int) := by omega
    have hcz : ((C : Int) == 0) = false := by simp; omega
    clear hE hgood
    by_cases hc19 : (C : Int) ≤ 19
    · skip
      by_cases h1 : 0 < a.size
      · by_cases h2 : 0 < b.size
        · obtain ⟨A, hA⟩ : ∃ A : Nat, (a.size : Int) - 1 = (A : Int) := ⟨a.size - 1, by omega⟩
          have hAl : A < a.size := by omega
          have hAi : (A : Int) < (a.size : Int) := by omega
          have hda := dg_eq a A hAl
          cases hdp : dg a A with
          | false => as_aux_lemma =>
            rw [hdp] at hda
            have HM : Hid (a.size = 0 ∨ dg a (a.size - 1) = false ∨ dg b 0 = false) := ⟨Or.inr (Or.inl (by rw [show a.size - 1 = A by omega]; exact hdp))⟩
            clear hdp
            go_wp2_with (go_at_call 7; refine (isdig7 _ _).mono ?_; rintro e' wd ⟨rfl, hw⟩; obtain rfl : w1 = wd := hw.symm)
            refine (count_any b w1 (by unfold maxLen; omega)).mono ?_
            rintro e' w2 ⟨rfl, hw⟩
            obtain rfl : w1 = w2 := hw.symm
            by_cases hcb : 0 < cnt b b.size
            · have HNZ : Hid (∀ E i, Ends b E i → 0 < E) := ⟨fun E i h => by
                by_cases h0 : E = 0
                · have := h.zeroIff.2 h0; omega
                · omega⟩
              generalize cnt b b.size = CB at *
              have hcbi : (0 : Int) < (CB : Int) := by omega
              go_wp2_with fail
              refine (zz_any b w1 (by omega)).mono ?_
              rintro e' w3 ⟨Eb, ib, hEb, hB3, ⟨hx, rfl⟩ | ⟨hx, rfl⟩⟩
              · have HU := hEb.right (HNZ.out _ _ hEb) HM.out
                exfalso
                obtain ⟨e1, e2⟩ := HE.out.unique HU
                have h1 := HG.out
                have h2 := hx
                omega
              · have HU := hEb.right (HNZ.out _ _ hEb) HM.out
                obtain ⟨e1, e2⟩ := HE.out.unique HU
                have hd : (E : Int) - (i : Int) = (Eb : Int) - (ib : Int) := by omega
                have hp : (a ++ b).extract 0 i = a ++ b.extract 0 ib := by rw [e2, pre_right]
                have hs : (a ++ b).extract E (a.size + b.size) = b.extract Eb b.size := by rw [← ByteArray.size_append, e1, suf_right]
                have hv : val (a ++ b) i (E - i) = val b ib (Eb - ib) := by rw [e2, val_right, e1]; congr 1; omega
                have hbs : (b.extract 0 ib).size ≤ 1048576 := by rw [ByteArray.size_extract]; omega
                rw [hd, hp, hs, hv]
                generalize b.extract 0 ib = bp at *
                generalize b.extract Eb b.size = bs at *
                generalize val b ib (Eb - ib) = V at *
                clear hp hs hv e1 e2 hd
                clear hEb HE HU HNZ HM
                go_wp2_with fail
                go_ret
                exact ⟨rfl, hB.trans (hB3.mono hB.size)⟩
            · have HNZ : Hid (∀ j, j < b.size → dg b j = false) := ⟨cnt_zero b _ (by omega)⟩
              generalize cnt b b.size = CB at *
              obtain rfl : CB = 0 := by omega
              go_wp2_with fail
              refine (zz_any a w1 (by omega)).mono ?_
              rintro e' w3 ⟨Eb, ib, hEb, hB3, ⟨hx, rfl⟩ | ⟨hx, rfl⟩⟩
              · have HU := hEb.left HNZ.out
                exfalso
                obtain ⟨e1, e2⟩ := HE.out.unique HU
                have h1 := HG.out
                have h2 := hx
                omega
              · have HU := hEb.left HNZ.out
                obtain ⟨e1, e2⟩ := HE.out.unique HU
                have hle := hEb.le
                have hie := hEb.ie
                have hd : (E : Int) - (i : Int) = (Eb : Int) - (ib : Int) := by omega
                have hp : (a ++ b).extract 0 i = a.extract 0 ib := by rw [e2, pre_left _ _ _ (by omega)]
                have hs : (a ++ b).extract E (a.size + b.size) = a.extract Eb a.size ++ b := by rw [← ByteArray.size_append, e1, suf_left _ _ _ (by omega)]
                have hv : val (a ++ b) i (E - i) = val a ib (Eb - ib) := by rw [e2, e1, val_left _ _ _ _ (by omega)]
                have hbs : (a.extract Eb a.size).size ≤ 1048576 := by rw [ByteArray.size_extract]; omega
                rw [hd, hp, hs, hv]
                generalize a.extract 0 ib = bp at *
                generalize a.extract Eb a.size = bs at *
                generalize val a ib (Eb - ib) = V at *
                clear hp hs hv e1 e2 hd hle hie
                clear hEb HE HU HNZ HM
                go_wp2_with fail
                go_ret
                exact ⟨rfl, hB.trans (hB3.mono hB.size)⟩
          | true =>
            rw [hdp] at hda
            clear hdp
            have hdb := dg_eq b 0 h2
            cases hdq : dg b 0 with
            | false => as_aux_lemma =>
              rw [hdq] at hdb
              have HM : Hid (a.size = 0 ∨ dg a (a.size - 1) = false ∨ dg b 0 = false) := ⟨Or.inr (Or.inr hdq)⟩
              clear hdq
              go_wp2_with (go_at_call 7; refine (isdig7 _ _).mono ?_; rintro e' wd ⟨rfl, hw⟩; obtain rfl : w1 = wd := hw.symm)
              refine (count_any b w1 (by unfold maxLen; omega)).mono ?_
              rintro e' w2 ⟨rfl, hw⟩
              obtain rfl : w1 = w2 := hw.symm
              by_cases hcb : 0 < cnt b b.size
              · have HNZ : Hid (∀ E i, Ends b E i → 0 < E) := ⟨fun E i h => by
                  by_cases h0 : E = 0
                  · have := h.zeroIff.2 h0; omega
                  · omega⟩
                generalize cnt b b.size = CB at *
                have hcbi : (0 : Int) < (CB : Int) := by omega
                go_wp2_with fail
                refine (zz_any b w1 (by omega)).mono ?_
                rintro e' w3 ⟨Eb, ib, hEb, hB3, ⟨hx, rfl⟩ | ⟨hx, rfl⟩⟩
                · have HU := hEb.right (HNZ.out _ _ hEb) HM.out
                  exfalso
                  obtain ⟨e1, e2⟩ := HE.out.unique HU
                  have h1 := HG.out
                  have h2 := hx
                  omega
                · have HU := hEb.right (HNZ.out _ _ hEb) HM.out
                  obtain ⟨e1, e2⟩ := HE.out.unique HU
                  have hd : (E : Int) - (i : Int) = (Eb : Int) - (ib : Int) := by omega
                  have hp : (a ++ b).extract 0 i = a ++ b.extract 0 ib := by rw [e2, pre_right]
                  have hs : (a ++ b).extract E (a.size + b.size) = b.extract Eb b.size := by rw [← ByteArray.size_append, e1, suf_right]
                  have hv : val (a ++ b) i (E - i) = val b ib (Eb - ib) := by rw [e2, val_right, e1]; congr 1; omega
                  have hbs : (b.extract 0 ib).size ≤ 1048576 := by rw [ByteArray.size_extract]; omega
                  rw [hd, hp, hs, hv]
                  generalize b.extract 0 ib = bp at *
                  generalize b.extract Eb b.size = bs at *
                  generalize val b ib (Eb - ib) = V at *
                  clear hp hs hv e1 e2 hd
                  clear hEb HE HU HNZ HM
                  go_wp2_with fail
                  go_ret
                  exact ⟨rfl, hB.trans (hB3.mono hB.size)⟩
              · have HNZ : Hid (∀ j, j < b.size → dg b j = false) := ⟨cnt_zero b _ (by omega)⟩
                generalize cnt b b.size = CB at *
                obtain rfl : CB = 0 := by omega
                go_wp2_with fail
                refine (zz_any a w1 (by omega)).mono ?_
                rintro e' w3 ⟨Eb, ib, hEb, hB3, ⟨hx, rfl⟩ | ⟨hx, rfl⟩⟩
                · have HU := hEb.left HNZ.out
                  exfalso
                  obtain ⟨e1, e2⟩ := HE.out.unique HU
                  have h1 := HG.out
                  have h2 := hx
                  omega
                · have HU := hEb.left HNZ.out
                  obtain ⟨e1, e2⟩ := HE.out.unique HU
                  have hle := hEb.le
                  have hie := hEb.ie
                  have hd : (E : Int) - (i : Int) = (Eb : Int) - (ib : Int) := by omega
                  have hp : (a ++ b).extract 0 i = a.extract 0 ib := by rw [e2, pre_left _ _ _ (by omega)]
                  have hs : (a ++ b).extract E (a.size + b.size) = a.extract Eb a.size ++ b := by rw [← ByteArray.size_append, e1, suf_left _ _ _ (by omega)]
                  have hv : val (a ++ b) i (E - i) = val a ib (Eb - ib) := by rw [e2, e1, val_left _ _ _ _ (by omega)]
                  have hbs : (a.extract Eb a.size).size ≤ 1048576 := by rw [ByteArray.size_extract]; omega
                  rw [hd, hp, hs, hv]
                  generalize a.extract 0 ib = bp at *
                  generalize a.extract Eb a.size = bs at *
                  generalize val a ib (Eb - ib) = V at *
                  clear hp hs hv e1 e2 hd hle hie
                  clear hEb HE HU HNZ HM
                  go_wp2_with fail
                  go_ret
                  exact ⟨rfl, hB.trans (hB3.mono hB.size)⟩
            | true => as_aux_lemma =>
              rw [hdq] at hdb
              clear hdq
              go_wp2_with (go_at_call 7; refine (isdig7 _ _).mono ?_; rintro e' wd ⟨rfl, hw⟩; obtain rfl : w1 = wd := hw.symm)
              go_ret
              exact ⟨rfl, hB⟩
        · as_aux_lemma =>
          have HM : Hid (a.size = 0 ∨ dg a (a.size - 1) = false ∨ dg b 0 = false) := ⟨Or.inr (Or.inr (by
            have : b.size = 0 := by omega
            simp [dg, byteAt, this, dgI]))⟩
          go_wp2_with (go_at_call 7; refine (isdig7 _ _).mono ?_; rintro e' wd ⟨rfl, hw⟩; obtain rfl : w1 = wd := hw.symm)
          refine (count_any b w1 (by unfold maxLen; omega)).mono ?_
          rintro e' w2 ⟨rfl, hw⟩
          obtain rfl : w1 = w2 := hw.symm
          by_cases hcb : 0 < cnt b b.size
          · have HNZ : Hid (∀ E i, Ends b E i → 0 < E) := ⟨fun E i h => by
              by_cases h0 : E = 0
              · have := h.zeroIff.2 h0; omega
              · omega⟩
            generalize cnt b b.size = CB at *
            have hcbi : (0 : Int) < (CB : Int) := by omega
            go_wp2_with fail
            refine (zz_any b w1 (by omega)).mono ?_
            rintro e' w3 ⟨Eb, ib, hEb, hB3, ⟨hx, rfl⟩ | ⟨hx, rfl⟩⟩
            · have HU := hEb.right (HNZ.out _ _ hEb) HM.out
              exfalso
              obtain ⟨e1, e2⟩ := HE.out.unique HU
              have h1 := HG.out
              have h2 := hx
              omega
            · have HU := hEb.right (HNZ.out _ _ hEb) HM.out
              obtain ⟨e1, e2⟩ := HE.out.unique HU
              have hd : (E : Int) - (i : Int) = (Eb : Int) - (ib : Int) := by omega
              have hp : (a ++ b).extract 0 i = a ++ b.extract 0 ib := by rw [e2, pre_right]
              have hs : (a ++ b).extract E (a.size + b.size) = b.extract Eb b.size := by rw [← ByteArray.size_append, e1, suf_right]
              have hv : val (a ++ b) i (E - i) = val b ib (Eb - ib) := by rw [e2, val_right, e1]; congr 1; omega
              have hbs : (b.extract 0 ib).size ≤ 1048576 := by rw [ByteArray.size_extract]; omega
              rw [hd, hp, hs, hv]
              generalize b.extract 0 ib = bp at *
              generalize b.extract Eb b.size = bs at *
              generalize val b ib (Eb - ib) = V at *
              clear hp hs hv e1 e2 hd
              clear hEb HE HU HNZ HM
              go_wp2_with fail
              go_ret
              exact ⟨rfl, hB.trans (hB3.mono hB.size)⟩
          · have HNZ : Hid (∀ j, j < b.size → dg b j = false) := ⟨cnt_zero b _ (by omega)⟩
            generalize cnt b b.size = CB at *
            obtain rfl : CB = 0 := by omega
            go_wp2_with fail
            refine (zz_any a w1 (by omega)).mono ?_
            rintro e' w3 ⟨Eb, ib, hEb, hB3, ⟨hx, rfl⟩ | ⟨hx, rfl⟩⟩
            · have HU := hEb.left HNZ.out
              exfalso
              obtain ⟨e1, e2⟩ := HE.out.unique HU
              have h1 := HG.out
              have h2 := hx
              omega
            · have HU := hEb.left HNZ.out
              obtain ⟨e1, e2⟩ := HE.out.unique HU
              have hle := hEb.le
              have hie := hEb.ie
              have hd : (E : Int) - (i : Int) = (Eb : Int) - (ib : Int) := by omega
              have hp : (a ++ b).extract 0 i = a.extract 0 ib := by rw [e2, pre_left _ _ _ (by omega)]
              have hs : (a ++ b).extract E (a.size + b.size) = a.extract Eb a.size ++ b := by rw [← ByteArray.size_append, e1, suf_left _ _ _ (by omega)]
              have hv : val (a ++ b) i (E - i) = val a ib (Eb - ib) := by rw [e2, e1, val_left _ _ _ _ (by omega)]
              have hbs : (a.extract Eb a.size).size ≤ 1048576 := by rw [ByteArray.size_extract]; omega
              rw [hd, hp, hs, hv]
              generalize a.extract 0 ib = bp at *
              generalize a.extract Eb a.size = bs at *
              generalize val a ib (Eb - ib) = V at *
              clear hp hs hv e1 e2 hd hle hie
              clear hEb HE HU HNZ HM
              go_wp2_with fail
              go_ret
              exact ⟨rfl, hB.trans (hB3.mono hB.size)⟩
      · as_aux_lemma =>
        have HM : Hid (a.size = 0 ∨ dg a (a.size - 1) = false ∨ dg b 0 = false) := ⟨Or.inl (by omega)⟩
        go_wp2_with (go_at_call 7; refine (isdig7 _ _).mono ?_; rintro e' wd ⟨rfl, hw⟩; obtain rfl : w1 = wd := hw.symm)
        refine (count_any b w1 (by unfold maxLen; omega)).mono ?_
        rintro e' w2 ⟨rfl, hw⟩
        obtain rfl : w1 = w2 := hw.symm
        by_cases hcb : 0 < cnt b b.size
        · have HNZ : Hid (∀ E i, Ends b E i → 0 < E) := ⟨fun E i h => by
            by_cases h0 : E = 0
            · have := h.zeroIff.2 h0; omega
            · omega⟩
          generalize cnt b b.size = CB at *
          have hcbi : (0 : Int) < (CB : Int) := by omega
          go_wp2_with fail
          refine (zz_any b w1 (by omega)).mono ?_
          rintro e' w3 ⟨Eb, ib, hEb, hB3, ⟨hx, rfl⟩ | ⟨hx, rfl⟩⟩
          · have HU := hEb.right (HNZ.out _ _ hEb) HM.out
            exfalso
            obtain ⟨e1, e2⟩ := HE.out.unique HU
            have h1 := HG.out
            have h2 := hx
            omega
          · have HU := hEb.right (HNZ.out _ _ hEb) HM.out
            obtain ⟨e1, e2⟩ := HE.out.unique HU
            have hd : (E : Int) - (i : Int) = (Eb : Int) - (ib : Int) := by omega
            have hp : (a ++ b).extract 0 i = a ++ b.extract 0 ib := by rw [e2, pre_right]
            have hs : (a ++ b).extract E (a.size + b.size) = b.extract Eb b.size := by rw [← ByteArray.size_append, e1, suf_right]
            have hv : val (a ++ b) i (E - i) = val b ib (Eb - ib) := by rw [e2, val_right, e1]; congr 1; omega
            have hbs : (b.extract 0 ib).size ≤ 1048576 := by rw [ByteArray.size_extract]; omega
            rw [hd, hp, hs, hv]
            generalize b.extract 0 ib = bp at *
            generalize b.extract Eb b.size = bs at *
            generalize val b ib (Eb - ib) = V at *
            clear hp hs hv e1 e2 hd
            clear hEb HE HU HNZ HM
            go_wp2_with fail
            go_ret
            exact ⟨rfl, hB.trans (hB3.mono hB.size)⟩
        · have HNZ : Hid (∀ j, j < b.size → dg b j = false) := ⟨cnt_zero b _ (by omega)⟩
          generalize cnt b b.size = CB at *
          obtain rfl : CB = 0 := by omega
          go_wp2_with fail
          refine (zz_any a w1 (by omega)).mono ?_
          rintro e' w3 ⟨Eb, ib, hEb, hB3, ⟨hx, rfl⟩ | ⟨hx, rfl⟩⟩
          · have HU := hEb.left HNZ.out
            exfalso
            obtain ⟨e1, e2⟩ := HE.out.unique HU
            have h1 := HG.out
            have h2 := hx
            omega
          · have HU := hEb.left HNZ.out
            obtain ⟨e1, e2⟩ := HE.out.unique HU
            have hle := hEb.le
            have hie := hEb.ie
            have hd : (E : Int) - (i : Int) = (Eb : Int) - (ib : Int) := by omega
            have hp : (a ++ b).extract 0 i = a.extract 0 ib := by rw [e2, pre_left _ _ _ (by omega)]
            have hs : (a ++ b).extract E (a.size + b.size) = a.extract Eb a.size ++ b := by rw [← ByteArray.size_append, e1, suf_left _ _ _ (by omega)]
            have hv : val (a ++ b) i (E - i) = val a ib (Eb - ib) := by rw [e2, e1, val_left _ _ _ _ (by omega)]
            have hbs : (a.extract Eb a.size).size ≤ 1048576 := by rw [ByteArray.size_extract]; omega
            rw [hd, hp, hs, hv]
            generalize a.extract 0 ib = bp at *
            generalize a.extract Eb a.size = bs at *
            generalize val a ib (Eb - ib) = V at *
            clear hp hs hv e1 e2 hd hle hie
            clear hEb HE HU HNZ HM
            go_wp2_with fail
            go_ret
            exact ⟨rfl, hB.trans (hB3.mono hB.size)⟩
    · skip
      by_cases h1 : 0 < a.size
      · by_cases h2 : 0 < b.size
        · obtain ⟨A, hA⟩ : ∃ A : Nat, (a.size : Int) - 1 = (A : Int) := ⟨a.size - 1, by omega⟩
          have hAl : A < a.size := by omega
          have hAi : (A : Int) < (a.size : Int) := by omega
          have hda := dg_eq a A hAl
          cases hdp : dg a A with
          | false => as_aux_lemma =>
            rw [hdp] at hda
            have HM : Hid (a.size = 0 ∨ dg a (a.size - 1) = false ∨ dg b 0 = false) := ⟨Or.inr (Or.inl (by rw [show a.size - 1 = A by omega]; exact hdp))⟩
            clear hdp
            go_wp2_with (go_at_call 7; refine (isdig7 _ _).mono ?_; rintro e' wd ⟨rfl, hw⟩; obtain rfl : w1 = wd := hw.symm)
            refine (count_any b w1 (by unfold maxLen; omega)).mono ?_
            rintro e' w2 ⟨rfl, hw⟩
            obtain rfl : w1 = w2 := hw.symm
            by_cases hcb : 0 < cnt b b.size
            · have HNZ : Hid (∀ E i, Ends b E i → 0 < E) := ⟨fun E i h => by
                by_cases h0 : E = 0
                · have := h.zeroIff.2 h0; omega
                · omega⟩
              generalize cnt b b.size = CB at *
              have hcbi : (0 : Int) < (CB : Int) := by omega
              go_wp2_with fail
              refine (zz_any b w1 (by omega)).mono ?_
              rintro e' w3 ⟨Eb, ib, hEb, hB3, ⟨hx, rfl⟩ | ⟨hx, rfl⟩⟩
              · have HU := hEb.right (HNZ.out _ _ hEb) HM.out
                exfalso
                obtain ⟨e1, e2⟩ := HE.out.unique HU
                have h1 := HG.out
                have h2 := hx
                omega
              · have HU := hEb.right (HNZ.out _ _ hEb) HM.out
                obtain ⟨e1, e2⟩ := HE.out.unique HU
                have hd : (E : Int) - (i : Int) = (Eb : Int) - (ib : Int) := by omega
                have hp : (a ++ b).extract 0 i = a ++ b.extract 0 ib := by rw [e2, pre_right]
                have hs : (a ++ b).extract E (a.size + b.size) = b.extract Eb b.size := by rw [← ByteArray.size_append, e1, suf_right]
                have hv : val (a ++ b) i (E - i) = val b ib (Eb - ib) := by rw [e2, val_right, e1]; congr 1; omega
                have hbs : (b.extract 0 ib).size ≤ 1048576 := by rw [ByteArray.size_extract]; omega
                rw [hd, hp, hs, hv]
                generalize b.extract 0 ib = bp at *
                generalize b.extract Eb b.size = bs at *
                generalize val b ib (Eb - ib) = V at *
                clear hp hs hv e1 e2 hd
                clear hEb HE HU HNZ HM
                go_wp2_with fail
                go_ret
                exact ⟨rfl, hB.trans (hB3.mono hB.size)⟩
            · have HNZ : Hid (∀ j, j < b.size → dg b j = false) := ⟨cnt_zero b _ (by omega)⟩
              generalize cnt b b.size = CB at *
              obtain rfl : CB = 0 := by omega
              go_wp2_with fail
              refine (zz_any a w1 (by omega)).mono ?_
              rintro e' w3 ⟨Eb, ib, hEb, hB3, ⟨hx, rfl⟩ | ⟨hx, rfl⟩⟩
              · have HU := hEb.left HNZ.out
                exfalso
                obtain ⟨e1, e2⟩ := HE.out.unique HU
                have h1 := HG.out
                have h2 := hx
                omega
              · have HU := hEb.left HNZ.out
                obtain ⟨e1, e2⟩ := HE.out.unique HU
                have hle := hEb.le
                have hie := hEb.ie
                have hd : (E : Int) - (i : Int) = (Eb : Int) - (ib : Int) := by omega
                have hp : (a ++ b).extract 0 i = a.extract 0 ib := by rw [e2, pre_left _ _ _ (by omega)]
                have hs : (a ++ b).extract E (a.size + b.size) = a.extract Eb a.size ++ b := by rw [← ByteArray.size_append, e1, suf_left _ _ _ (by omega)]
                have hv : val (a ++ b) i (E - i) = val a ib (Eb - ib) := by rw [e2, e1, val_left _ _ _ _ (by omega)]
                have hbs : (a.extract Eb a.size).size ≤ 1048576 := by rw [ByteArray.size_extract]; omega
                rw [hd, hp, hs, hv]
                generalize a.extract 0 ib = bp at *
                generalize a.extract Eb a.size = bs at *
                generalize val a ib (Eb - ib) = V at *
                clear hp hs hv e1 e2 hd hle hie
                clear hEb HE HU HNZ HM
                go_wp2_with fail
                go_ret
                exact ⟨rfl, hB.trans (hB3.mono hB.size)⟩
          | true =>
            rw [hdp] at hda
            clear hdp
            have hdb := dg_eq b 0 h2
            cases hdq : dg b 0 with
            | false => as_aux_lemma =>
              rw [hdq] at hdb
              have HM : Hid (a.size = 0 ∨ dg a (a.size - 1) = false ∨ dg b 0 = false) := ⟨Or.inr (Or.inr hdq)⟩
              clear hdq
              go_wp2_with (go_at_call 7; refine (isdig7 _ _).mono ?_; rintro e' wd ⟨rfl, hw⟩; obtain rfl : w1 = wd := hw.symm)
              refine (count_any b w1 (by unfold maxLen; omega)).mono ?_
              rintro e' w2 ⟨rfl, hw⟩
              obtain rfl : w1 = w2 := hw.symm
              by_cases hcb : 0 < cnt b b.size
              · have HNZ : Hid (∀ E i, Ends b E i → 0 < E) := ⟨fun E i h => by
                  by_cases h0 : E = 0
                  · have := h.zeroIff.2 h0; omega
                  · omega⟩
                generalize cnt b b.size = CB at *
                have hcbi : (0 : Int) < (CB : Int) := by omega
                go_wp2_with fail
                refine (zz_any b w1 (by omega)).mono ?_
                rintro e' w3 ⟨Eb, ib, hEb, hB3, ⟨hx, rfl⟩ | ⟨hx, rfl⟩⟩
                · have HU := hEb.right (HNZ.out _ _ hEb) HM.out
                  exfalso
                  obtain ⟨e1, e2⟩ := HE.out.unique HU
                  have h1 := HG.out
                  have h2 := hx
                  omega
                · have HU := hEb.right (HNZ.out _ _ hEb) HM.out
                  obtain ⟨e1, e2⟩ := HE.out.unique HU
                  have hd : (E : Int) - (i : Int) = (Eb : Int) - (ib : Int) := by omega
                  have hp : (a ++ b).extract 0 i = a ++ b.extract 0 ib := by rw [e2, pre_right]
                  have hs : (a ++ b).extract E (a.size + b.size) = b.extract Eb b.size := by rw [← ByteArray.size_append, e1, suf_right]
                  have hv : val (a ++ b) i (E - i) = val b ib (Eb - ib) := by rw [e2, val_right, e1]; congr 1; omega
                  have hbs : (b.extract 0 ib).size ≤ 1048576 := by rw [ByteArray.size_extract]; omega
                  rw [hd, hp, hs, hv]
                  generalize b.extract 0 ib = bp at *
                  generalize b.extract Eb b.size = bs at *
                  generalize val b ib (Eb - ib) = V at *
                  clear hp hs hv e1 e2 hd
                  clear hEb HE HU HNZ HM
                  go_wp2_with fail
                  go_ret
                  exact ⟨rfl, hB.trans (hB3.mono hB.size)⟩
              · have HNZ : Hid (∀ j, j < b.size → dg b j = false) := ⟨cnt_zero b _ (by omega)⟩
                generalize cnt b b.size = CB at *
                obtain rfl : CB = 0 := by omega
                go_wp2_with fail
                refine (zz_any a w1 (by omega)).mono ?_
                rintro e' w3 ⟨Eb, ib, hEb, hB3, ⟨hx, rfl⟩ | ⟨hx, rfl⟩⟩
                · have HU := hEb.left HNZ.out
                  exfalso
                  obtain ⟨e1, e2⟩ := HE.out.unique HU
                  have h1 := HG.out
                  have h2 := hx
                  omega
                · have HU := hEb.left HNZ.out
                  obtain ⟨e1, e2⟩ := HE.out.unique HU
                  have hle := hEb.le
                  have hie := hEb.ie
                  have hd : (E : Int) - (i : Int) = (Eb : Int) - (ib : Int) := by omega
                  have hp : (a ++ b).extract 0 i = a.extract 0 ib := by rw [e2, pre_left _ _ _ (by omega)]
                  have hs : (a ++ b).extract E (a.size + b.size) = a.extract Eb a.size ++ b := by rw [← ByteArray.size_append, e1, suf_left _ _ _ (by omega)]
                  have hv : val (a ++ b) i (E - i) = val a ib (Eb - ib) := by rw [e2, e1, val_left _ _ _ _ (by omega)]
                  have hbs : (a.extract Eb a.size).size ≤ 1048576 := by rw [ByteArray.size_extract]; omega
                  rw [hd, hp, hs, hv]
                  generalize a.extract 0 ib = bp at *
                  generalize a.extract Eb a.size = bs at *
                  generalize val a ib (Eb - ib) = V at *
                  clear hp hs hv e1 e2 hd hle hie
                  clear hEb HE HU HNZ HM
                  go_wp2_with fail
                  go_ret
                  exact ⟨rfl, hB.trans (hB3.mono hB.size)⟩
            | true => as_aux_lemma =>
              rw [hdq] at hdb
              clear hdq
              go_wp2_with (go_at_call 7; refine (isdig7 _ _).mono ?_; rintro e' wd ⟨rfl, hw⟩; obtain rfl : w1 = wd := hw.symm)
              go_ret
              exact ⟨rfl, hB⟩
        · as_aux_lemma =>
          have HM : Hid (a.size = 0 ∨ dg a (a.size - 1) = false ∨ dg b 0 = false) := ⟨Or.inr (Or.inr (by
            have : b.size = 0 := by omega
            simp [dg, byteAt, this, dgI]))⟩
          go_wp2_with (go_at_call 7; refine (isdig7 _ _).mono ?_; rintro e' wd ⟨rfl, hw⟩; obtain rfl : w1 = wd := hw.symm)
          refine (count_any b w1 (by unfold maxLen; omega)).mono ?_
          rintro e' w2 ⟨rfl, hw⟩
          obtain rfl : w1 = w2 := hw.symm
          by_cases hcb : 0 < cnt b b.size
          · have HNZ : Hid (∀ E i, Ends b E i → 0 < E) := ⟨fun E i h => by
              by_cases h0 : E = 0
              · have := h.zeroIff.2 h0; omega
              · omega⟩
            generalize cnt b b.size = CB at *
            have hcbi : (0 : Int) < (CB : Int) := by omega
            go_wp2_with fail
            refine (zz_any b w1 (by omega)).mono ?_
            rintro e' w3 ⟨Eb, ib, hEb, hB3, ⟨hx, rfl⟩ | ⟨hx, rfl⟩⟩
            · have HU := hEb.right (HNZ.out _ _ hEb) HM.out
              exfalso
              obtain ⟨e1, e2⟩ := HE.out.unique HU
              have h1 := HG.out
              have h2 := hx
              omega
            · have HU := hEb.right (HNZ.out _ _ hEb) HM.out
              obtain ⟨e1, e2⟩ := HE.out.unique HU
              have hd : (E : Int) - (i : Int) = (Eb : Int) - (ib : Int) := by omega
              have hp : (a ++ b).extract 0 i = a ++ b.extract 0 ib := by rw [e2, pre_right]
              have hs : (a ++ b).extract E (a.size + b.size) = b.extract Eb b.size := by rw [← ByteArray.size_append, e1, suf_right]
              have hv : val (a ++ b) i (E - i) = val b ib (Eb - ib) := by rw [e2, val_right, e1]; congr 1; omega
              have hbs : (b.extract 0 ib).size ≤ 1048576 := by rw [ByteArray.size_extract]; omega
              rw [hd, hp, hs, hv]
              generalize b.extract 0 ib = bp at *
              generalize b.extract Eb b.size = bs at *
              generalize val b ib (Eb - ib) = V at *
              clear hp hs hv e1 e2 hd
              clear hEb HE HU HNZ HM
              go_wp2_with fail
              go_ret
              exact ⟨rfl, hB.trans (hB3.mono hB.size)⟩
          · have HNZ : Hid (∀ j, j < b.size → dg b j = false) := ⟨cnt_zero b _ (by omega)⟩
            generalize cnt b b.size = CB at *
            obtain rfl : CB = 0 := by omega
            go_wp2_with fail
            refine (zz_any a w1 (by omega)).mono ?_
            rintro e' w3 ⟨Eb, ib, hEb, hB3, ⟨hx, rfl⟩ | ⟨hx, rfl⟩⟩
            · have HU := hEb.left HNZ.out
              exfalso
              obtain ⟨e1, e2⟩ := HE.out.unique HU
              have h1 := HG.out
              have h2 := hx
              omega
            · have HU := hEb.left HNZ.out
              obtain ⟨e1, e2⟩ := HE.out.unique HU
              have hle := hEb.le
              have hie := hEb.ie
              have hd : (E : Int) - (i : Int) = (Eb : Int) - (ib : Int) := by omega
              have hp : (a ++ b).extract 0 i = a.extract 0 ib := by rw [e2, pre_left _ _ _ (by omega)]
              have hs : (a ++ b).extract E (a.size + b.size) = a.extract Eb a.size ++ b := by rw [← ByteArray.size_append, e1, suf_left _ _ _ (by omega)]
              have hv : val (a ++ b) i (E - i) = val a ib (Eb - ib) := by rw [e2, e1, val_left _ _ _ _ (by omega)]
              have hbs : (a.extract Eb a.size).size ≤ 1048576 := by rw [ByteArray.size_extract]; omega
              rw [hd, hp, hs, hv]
              generalize a.extract 0 ib = bp at *
              generalize a.extract Eb a.size = bs at *
              generalize val a ib (Eb - ib) = V at *
              clear hp hs hv e1 e2 hd hle hie
              clear hEb HE HU HNZ HM
              go_wp2_with fail
              go_ret
              exact ⟨rfl, hB.trans (hB3.mono hB.size)⟩
      · as_aux_lemma =>
        have HM : Hid (a.size = 0 ∨ dg a (a.size - 1) = false ∨ dg b 0 = false) := ⟨Or.inl (by omega)⟩
        go_wp2_with (go_at_call 7; refine (isdig7 _ _).mono ?_; rintro e' wd ⟨rfl, hw⟩; obtain rfl : w1 = wd := hw.symm)
        refine (count_any b w1 (by unfold maxLen; omega)).mono ?_
        rintro e' w2 ⟨rfl, hw⟩
        obtain rfl : w1 = w2 := hw.symm
        by_cases hcb : 0 < cnt b b.size
        · have HNZ : Hid (∀ E i, Ends b E i → 0 < E) := ⟨fun E i h => by
            by_cases h0 : E = 0
            · have := h.zeroIff.2 h0; omega
            · omega⟩
          generalize cnt b b.size = CB at *
          have hcbi : (0 : Int) < (CB : Int) := by omega
          go_wp2_with fail
          refine (zz_any b w1 (by omega)).mono ?_
          rintro e' w3 ⟨Eb, ib, hEb, hB3, ⟨hx, rfl⟩ | ⟨hx, rfl⟩⟩
          · have HU := hEb.right (HNZ.out _ _ hEb) HM.out
            exfalso
            obtain ⟨e1, e2⟩ := HE.out.unique HU
            have h1 := HG.out
            have h2 := hx
            omega
          · have HU := hEb.right (HNZ.out _ _ hEb) HM.out
            obtain ⟨e1, e2⟩ := HE.out.unique HU
            have hd : (E : Int) - (i : Int) = (Eb : Int) - (ib : Int) := by omega
            have hp : (a ++ b).extract 0 i = a ++ b.extract 0 ib := by rw [e2, pre_right]
            have hs : (a ++ b).extract E (a.size + b.size) = b.extract Eb b.size := by rw [← ByteArray.size_append, e1, suf_right]
            have hv : val (a ++ b) i (E - i) = val b ib (Eb - ib) := by rw [e2, val_right, e1]; congr 1; omega
            have hbs : (b.extract 0 ib).size ≤ 1048576 := by rw [ByteArray.size_extract]; omega
            rw [hd, hp, hs, hv]
            generalize b.extract 0 ib = bp at *
            generalize b.extract Eb b.size = bs at *
            generalize val b ib (Eb - ib) = V at *
            clear hp hs hv e1 e2 hd
            clear hEb HE HU HNZ HM
            go_wp2_with fail
            go_ret
            exact ⟨rfl, hB.trans (hB3.mono hB.size)⟩
        · have HNZ : Hid (∀ j, j < b.size → dg b j = false) := ⟨cnt_zero b _ (by omega)⟩
          generalize cnt b b.size = CB at *
          obtain rfl : CB = 0 := by omega
          go_wp2_with fail
          refine (zz_any a w1 (by omega)).mono ?_
          rintro e' w3 ⟨Eb, ib, hEb, hB3, ⟨hx, rfl⟩ | ⟨hx, rfl⟩⟩
          · have HU := hEb.left HNZ.out
            exfalso
            obtain ⟨e1, e2⟩ := HE.out.unique HU
            have h1 := HG.out
            have h2 := hx
            omega
          · have HU := hEb.left HNZ.out
            obtain ⟨e1, e2⟩ := HE.out.unique HU
            have hle := hEb.le
            have hie := hEb.ie
            have hd : (E : Int) - (i : Int) = (Eb : Int) - (ib : Int) := by omega
            have hp : (a ++ b).extract 0 i = a.extract 0 ib := by rw [e2, pre_left _ _ _ (by omega)]
            have hs : (a ++ b).extract E (a.size + b.size) = a.extract Eb a.size ++ b := by rw [← ByteArray.size_append, e1, suf_left _ _ _ (by omega)]
            have hv : val (a ++ b) i (E - i) = val a ib (Eb - ib) := by rw [e2, e1, val_left _ _ _ _ (by omega)]
            have hbs : (a.extract Eb a.size).size ≤ 1048576 := by rw [ByteArray.size_extract]; omega
            rw [hd, hp, hs, hv]
            generalize a.extract 0 ib = bp at *
            generalize a.extract Eb a.size = bs at *
            generalize val a ib (Eb - ib) = V at *
            clear hp hs hv e1 e2 hd hle hie
            clear hEb HE HU HNZ HM
            go_wp2_with fail
            go_ret
            exact ⟨rfl, hB.trans (hB3.mono hB.size)⟩
end Go.Proofs.Qxb6630199a
