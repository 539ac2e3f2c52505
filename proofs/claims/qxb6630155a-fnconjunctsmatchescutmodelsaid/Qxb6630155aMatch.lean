import Derived.Test.Qxb6630155aTileB
import Derived.Test.Qxb6630155aModel
namespace Go.Proofs.Qxb6630155a
open Go.RowKit

theorem model_none (a : Option Addr) (n c : Nat) (s e : Int) (h : e ≤ s) (w : World) :
    Calls Try.prog 8 #[.slice a n c, .int .i64 s, .int .i64 e] w fun x w' => x = .returned (.slice none 0 0) ∧ w' = w := by
  go_enter Try.func8, Try.ntmps8
  go_wp2
  go_ret
  exact ⟨rfl, rfl⟩

set_option maxHeartbeats 2000000 in
set_option maxRecDepth 100000 in
theorem match_empty (a : Option Addr) (n c : Nat) (kd : Nat → Int) (tx : Nat → ByteArray) (ps : Nat → Int) (s e : Int) (w : World) (hn : n ≤ maxLen) (ht : ∀ i, i < n → (tx i).size ≤ maxLen) (hT : IsToks w a n kd tx ps) (hs0 : e ≤ s) (_hs1 : True) :
    Calls Try.prog 3 #[.slice a n c, .int .i64 s, .int .i64 e] w fun e w' => e = .returned (.bool true) ∧ Below w.heap.size w w' := by
  go_enter Try.func3, Try.ntmps3
  go_wp2_with fail
  refine (bytes5_any a n c kd tx ps s e w hn ht hT).mono ?_
  rintro e' wA ⟨⟨r, rfl, hr⟩, hw⟩
  obtain rfl : w = wA := hw.symm
  cases r with
  | false =>
    go_wp2
    go_ret
    exact ⟨rfl, Below.refl _ _⟩
  | true =>
    obtain ⟨_, hts⟩ := hr rfl
    clear hr
    by_cases hn2 : n ≤ 32768
    · go_wp2_with fail
      go_loop [7, 8] (fun z i => ∃ (k : Nat) (q : Int), k ≤ n ∧ i = .int .i64 k ∧ z = .int .i64 q ∧ 0 ≤ q ∧ q ≤ 1048576) (fun _ i => n - (intOf i).toNat)
      case atStart => exact ⟨0, _, Nat.zero_le _, rfl, rfl, by omega, by omega⟩
      case round =>
        obtain ⟨k, q, hk, rfl, rfl, hq0, hq1⟩ := hrel
        by_cases hlt : k < n
        · as_aux_lemma =>
          obtain ⟨b, off, rfl, hbl, _, h1, _⟩ := hT k hlt
          have hsz := hts k hlt
          generalize tx k = t at h1 hsz
          clear hts hT ht hs0 _hs1
          by_cases hsum : q + t.size ≤ 1048576
          · go_wp2
            go_round
            case rel => exact ⟨k + 1, _, by omega, by go_num, rfl, by omega, hsum⟩
            case measure => simp [intOf]; omega
          · go_wp2
            go_ret
            exact ⟨rfl, Below.refl _ _⟩
        · as_aux_lemma =>
          have hnn := fun w => Lib.run_eql_slice_nil (P := Try.prog) w 28 31 none 0 0 0 0 Try.underlying28
          go_wp2_with fail
          refine (toks_any a n c kd tx ps w hn2 hT).mono ?_
          rintro e' w1 ⟨rfl, _, hB1⟩
          go_wp2_with fail
          refine (conj_none _ n n s e hs0 w1).mono ?_
          rintro e' w2 ⟨rfl, hB2⟩
          go_wp2_with fail
          refine (model_none a n c s e hs0 w2).mono ?_
          rintro e' w3 ⟨rfl, hB3⟩
          obtain rfl : w2 = w3 := hB3.symm
          go_wp2_with fail
          refine wp_loop_rounds 1 ?_
          rw [rounds_succ]
          go_wp2
          go_ret
          exact ⟨rfl, hB1.trans (hB2.mono hB1.size)⟩
    · go_wp2
      go_ret
      exact ⟨rfl, Below.refl _ _⟩

set_option maxHeartbeats 2000000 in
set_option maxRecDepth 100000 in
theorem match_neg (a : Option Addr) (n c : Nat) (kd : Nat → Int) (tx : Nat → ByteArray) (ps : Nat → Int) (s e : Int) (w : World) (hn : n ≤ maxLen) (ht : ∀ i, i < n → (tx i).size ≤ maxLen) (hT : IsToks w a n kd tx ps) (hs0 : s < e) (hs1 : s < 0) :
    Calls Try.prog 3 #[.slice a n c, .int .i64 s, .int .i64 e] w fun e w' => e = .returned (.bool true) ∧ Below w.heap.size w w' := by
  go_enter Try.func3, Try.ntmps3
  go_wp2_with fail
  refine (bytes5_any a n c kd tx ps s e w hn ht hT).mono ?_
  rintro e' wA ⟨⟨r, rfl, hr⟩, hw⟩
  obtain rfl : w = wA := hw.symm
  cases r with
  | false =>
    go_wp2
    go_ret
    exact ⟨rfl, Below.refl _ _⟩
  | true =>
    obtain ⟨_, hts⟩ := hr rfl
    clear hr
    by_cases hn2 : n ≤ 32768
    · go_wp2_with fail
      go_loop [7, 8] (fun z i => ∃ (k : Nat) (q : Int), k ≤ n ∧ i = .int .i64 k ∧ z = .int .i64 q ∧ 0 ≤ q ∧ q ≤ 1048576) (fun _ i => n - (intOf i).toNat)
      case atStart => exact ⟨0, _, Nat.zero_le _, rfl, rfl, by omega, by omega⟩
      case round =>
        obtain ⟨k, q, hk, rfl, rfl, hq0, hq1⟩ := hrel
        by_cases hlt : k < n
        · as_aux_lemma =>
          obtain ⟨b, off, rfl, hbl, _, h1, _⟩ := hT k hlt
          have hsz := hts k hlt
          generalize tx k = t at h1 hsz
          clear hts hT ht hs0 hs1
          by_cases hsum : q + t.size ≤ 1048576
          · go_wp2
            go_round
            case rel => exact ⟨k + 1, _, by omega, by go_num, rfl, by omega, hsum⟩
            case measure => simp [intOf]; omega
          · go_wp2
            go_ret
            exact ⟨rfl, Below.refl _ _⟩
        · as_aux_lemma =>
          go_wp2
          go_ret
          exact ⟨rfl, Below.refl _ _⟩
    · go_wp2
      go_ret
      exact ⟨rfl, Below.refl _ _⟩

set_option maxHeartbeats 2000000 in
set_option maxRecDepth 100000 in
theorem match_over (a : Option Addr) (n c : Nat) (kd : Nat → Int) (tx : Nat → ByteArray) (ps : Nat → Int) (s e : Int) (w : World) (hn : n ≤ maxLen) (ht : ∀ i, i < n → (tx i).size ≤ maxLen) (hT : IsToks w a n kd tx ps) (hs0 : s < e) (hs1 : 0 ≤ s ∧ (n : Int) < e) :
    Calls Try.prog 3 #[.slice a n c, .int .i64 s, .int .i64 e] w fun e w' => e = .returned (.bool true) ∧ Below w.heap.size w w' := by
  go_enter Try.func3, Try.ntmps3
  go_wp2_with fail
  refine (bytes5_any a n c kd tx ps s e w hn ht hT).mono ?_
  rintro e' wA ⟨⟨r, rfl, hr⟩, hw⟩
  obtain rfl : w = wA := hw.symm
  cases r with
  | false =>
    go_wp2
    go_ret
    exact ⟨rfl, Below.refl _ _⟩
  | true =>
    obtain ⟨_, hts⟩ := hr rfl
    clear hr
    by_cases hn2 : n ≤ 32768
    · go_wp2_with fail
      go_loop [7, 8] (fun z i => ∃ (k : Nat) (q : Int), k ≤ n ∧ i = .int .i64 k ∧ z = .int .i64 q ∧ 0 ≤ q ∧ q ≤ 1048576) (fun _ i => n - (intOf i).toNat)
      case atStart => exact ⟨0, _, Nat.zero_le _, rfl, rfl, by omega, by omega⟩
      case round =>
        obtain ⟨k, q, hk, rfl, rfl, hq0, hq1⟩ := hrel
        by_cases hlt : k < n
        · as_aux_lemma =>
          obtain ⟨b, off, rfl, hbl, _, h1, _⟩ := hT k hlt
          have hsz := hts k hlt
          generalize tx k = t at h1 hsz
          clear hts hT ht hs0 hs1
          by_cases hsum : q + t.size ≤ 1048576
          · go_wp2
            go_round
            case rel => exact ⟨k + 1, _, by omega, by go_num, rfl, by omega, hsum⟩
            case measure => simp [intOf]; omega
          · go_wp2
            go_ret
            exact ⟨rfl, Below.refl _ _⟩
        · as_aux_lemma =>
          have hs2 : ¬ s < 0 := by omega
          go_wp2
          go_ret
          exact ⟨rfl, Below.refl _ _⟩
    · go_wp2
      go_ret
      exact ⟨rfl, Below.refl _ _⟩

set_option maxHeartbeats 2000000 in
set_option maxRecDepth 100000 in
theorem match_main (a : Option Addr) (n c : Nat) (kd : Nat → Int) (tx : Nat → ByteArray) (ps : Nat → Int) (s e : Int) (w : World) (hn : n ≤ maxLen) (ht : ∀ i, i < n → (tx i).size ≤ maxLen) (hT : IsToks w a n kd tx ps) (hs0 : s < e) (hs1 : 0 ≤ s ∧ e ≤ (n : Int)) :
    Calls Try.prog 3 #[.slice a n c, .int .i64 s, .int .i64 e] w fun e w' => e = .returned (.bool true) ∧ Below w.heap.size w w' := by
  go_enter Try.func3, Try.ntmps3
  go_wp2_with fail
  refine (bytes5_any a n c kd tx ps s e w hn ht hT).mono ?_
  rintro e' wA ⟨⟨r, rfl, hr⟩, hw⟩
  obtain rfl : w = wA := hw.symm
  cases r with
  | false =>
    go_wp2
    go_ret
    exact ⟨rfl, Below.refl _ _⟩
  | true =>
    obtain ⟨_, hts⟩ := hr rfl
    clear hr
    by_cases hn2 : n ≤ 32768
    · go_wp2_with fail
      go_loop [7, 8] (fun z i => ∃ (k : Nat) (q : Int), k ≤ n ∧ i = .int .i64 k ∧ z = .int .i64 q ∧ 0 ≤ q ∧ q ≤ 1048576) (fun _ i => n - (intOf i).toNat)
      case atStart => exact ⟨0, _, Nat.zero_le _, rfl, rfl, by omega, by omega⟩
      case round =>
        obtain ⟨k, q, hk, rfl, rfl, hq0, hq1⟩ := hrel
        by_cases hlt : k < n
        · as_aux_lemma =>
          obtain ⟨b, off, rfl, hbl, _, h1, _⟩ := hT k hlt
          have hsz := hts k hlt
          generalize tx k = t at h1 hsz
          clear hts hT ht hs0 hs1
          by_cases hsum : q + t.size ≤ 1048576
          · go_wp2
            go_round
            case rel => exact ⟨k + 1, _, by omega, by go_num, rfl, by omega, hsum⟩
            case measure => simp [intOf]; omega
          · go_wp2
            go_ret
            exact ⟨rfl, Below.refl _ _⟩
        · as_aux_lemma =>
          obtain ⟨s, rfl⟩ : ∃ s' : Nat, s = s' := ⟨s.toNat, by omega⟩
          obtain ⟨e, rfl⟩ : ∃ e' : Nat, e = e' := ⟨e.toNat, by omega⟩
          have hse : s < e := by omega
          have hen : e ≤ n := by omega
          have hD := dep_ok tx n s
          have hD0 := dep_start tx s
          have hA := dep_and kd tx n s
          have htile := conj_tiled (kws kd tx) (dep tx s) s e n hD0 hse hen hA
          have hne := (tiled_first htile hse).1
          go_wp2_with fail
          refine (toks_any a n c kd tx ps w hn2 hT).mono ?_
          rintro e' w1 ⟨rfl, hT1, hB1⟩
          have hTo := hT.below hB1
          go_wp2_with fail
          refine (conj_any w.heap.size n n s e kd tx ps (dep tx s) w1 hn2 (by omega) hen hT1 hts hD hD0).mono ?_
          rintro e' w2 ⟨v, rfl, hown, _, hB2⟩
          obtain ⟨g, vc, rfl, hSp⟩ := spans_of hown hne
          have hTo2 := hTo.below hB2
          have hBw : Below w.heap.size w w2 := hB1.trans (hB2.mono hB1.size)
          clear hown hB1 hB2 hT hTo hT1
          go_wp2_with fail
          refine (model_any a n c s e (e - s) kd tx ps (dep tx s) w2 hn2 hse hen (by omega) hTo2 hts hD hD0).mono ?_
          rintro e' w3 ⟨v, rfl, hown, hB3⟩
          obtain ⟨g2, vc2, rfl, hSp2⟩ := spans_of hown hne
          have hSp := hSp.below hB3
          have hBw : Below w.heap.size w w3 := hBw.trans (hB3.mono hBw.size)
          have hll : (conj (kws kd tx) (dep tx s) s e).length ≤ 32769 := by have := tiled_length htile (by omega); omega
          generalize conj (kws kd tx) (dep tx s) s e = L at *
          obtain ⟨m, hm⟩ : ∃ m, L.length = m + 1 := ⟨L.length - 1, by have := List.length_pos_iff.2 hne; omega⟩
          have HL : Hid (L.length = m + 1) := hm
          rw [hm]
          have hne0 : ((m : Int) + 1 == 0) = false := by simp; omega
          have hnem : ((m : Int) + 1 != (m : Int) + 1) = false := by simp
          have hn1 := fun w => Lib.run_eql_slice_nil (P := Try.prog) w 28 31 (some ⟨g, 0, none⟩) (m + 1) vc 0 0 Try.underlying28
          have hm1 : m ≤ 32768 := by omega
          clear hown hB3 htile hA hm hll hne hD hD0 hTo2 hts ht
          go_wp2_with fail
          go_loopw [12] (fun i wr => ∃ j : Nat, j ≤ m + 1 ∧ i = .int .i64 j ∧ ∃ q, wr = w3.drewN q) (fun i _ => m + 1 - (intOf i).toNat)
          case atStart => exact ⟨0, Nat.zero_le _, rfl, 0, rfl⟩
          case round =>
            obtain ⟨j, hj, rfl, hq⟩ := hrel
            by_cases hlt2 : j < m + 1
            · as_aux_lemma =>
              have c1 : wr.cell? ⟨g, j * 2, none⟩ = some (.int .i64 (px L j : Int)) := by obtain ⟨q, rfl⟩ := hq; exact hSp.x j (by rw [HL.out]; exact hlt2)
              have c2 : wr.cell? ⟨g, j * 2 + 1, none⟩ = some (.int .i64 (py L j : Int)) := by obtain ⟨q, rfl⟩ := hq; exact hSp.y j (by rw [HL.out]; exact hlt2)
              have c3 : wr.cell? ⟨g2, j * 2, none⟩ = some (.int .i64 (px L j : Int)) := by obtain ⟨q, rfl⟩ := hq; exact hSp2.x j (by rw [HL.out]; exact hlt2)
              have c4 : wr.cell? ⟨g2, j * 2 + 1, none⟩ = some (.int .i64 (py L j : Int)) := by obtain ⟨q, rfl⟩ := hq; exact hSp2.y j (by rw [HL.out]; exact hlt2)
              obtain ⟨X, hX⟩ : ∃ X : Int, (px L j : Int) = X := ⟨_, rfl⟩
              obtain ⟨Y, hY⟩ : ∃ Y : Int, (py L j : Int) = Y := ⟨_, rfl⟩
              rw [hX] at c1 c3
              rw [hY] at c2 c4
              have d1 : (X != X) = false := by simp
              have d2 : (Y != Y) = false := by simp
              have hji : (j : Int) < ((m + 1 : Nat) : Int) := by omega
              have hji2 : (j : Int) < (m : Int) + 1 := by omega
              have HQ : Hid (∃ q, wr = w3.drewN q) := hq
              clear hX hY hq hSp hSp2 hn1
              go_wp2
              go_quiet (fail)
              go_wp2
              go_roundw
              case rel =>
                obtain ⟨q, rfl⟩ := HQ
                exact ⟨j + 1, by omega, by go_num, _, World.drewN_drewN _ _ _⟩
              case measure => simp [intOf]; omega
            · as_aux_lemma =>
              obtain ⟨q2, rfl⟩ := hq
              go_wp2
              go_ret
              exact ⟨rfl, hBw.trans ((below_drewN w3 q2).mono hBw.size)⟩
    · go_wp2
      go_ret
      exact ⟨rfl, Below.refl _ _⟩

end Go.Proofs.Qxb6630155a
