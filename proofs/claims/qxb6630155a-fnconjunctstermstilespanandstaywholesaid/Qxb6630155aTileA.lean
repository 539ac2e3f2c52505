import Derived.Test.Qxb6630155aLaw
import Derived.Lib.LazyBuf
namespace Go.Proofs.Qxb6630155a
open Go.RowKit

set_option maxHeartbeats 2000000 in
set_option maxRecDepth 100000 in
theorem tile_empty (a : Option Addr) (n c : Nat) (kd : Nat → Int) (tx : Nat → ByteArray) (ps : Nat → Int) (s e : Int) (w : World) (hn : n ≤ maxLen) (ht : ∀ i, i < n → (tx i).size ≤ maxLen) (hT : IsToks w a n kd tx ps) (hs0 : e ≤ s) (_hs1 : True) :
    Calls Try.prog 4 #[.slice a n c, .int .i64 s, .int .i64 e] w fun e w' => e = .returned (.bool true) ∧ Below w.heap.size w w' := by
  go_enter Try.func4, Try.ntmps4
  go_wp2_with fail
  refine (bytes9_any a n c kd tx ps s e w hn ht hT).mono ?_
  rintro e' wA ⟨⟨r, rfl, hr⟩, hw⟩
  obtain rfl : w = wA := hw.symm
  cases r with
  | false =>
    go_wp2
    go_ret
    exact ⟨rfl, Below.refl _ _⟩
  | true =>
    obtain ⟨_, hts⟩ := hr rfl
    clear hr
    by_cases hn2 : n ≤ 32768
    · go_wp2_with fail
      go_loop [7, 8] (fun z i => ∃ (k : Nat) (q : Int), k ≤ n ∧ i = .int .i64 k ∧ z = .int .i64 q ∧ 0 ≤ q ∧ q ≤ 1048576) (fun _ i => n - (intOf i).toNat)
      case atStart => exact ⟨0, _, Nat.zero_le _, rfl, rfl, by omega, by omega⟩
      case round =>
        obtain ⟨k, q, hk, rfl, rfl, hq0, hq1⟩ := hrel
        by_cases hlt : k < n
        · as_aux_lemma =>
          obtain ⟨b, off, rfl, hbl, _, h1, _⟩ := hT k hlt
          have hsz := hts k hlt
          generalize tx k = t at h1 hsz
          clear hts hT ht hs0 _hs1
          by_cases hsum : q + t.size ≤ 1048576
          · go_wp2
            go_round
            case rel => exact ⟨k + 1, _, by omega, by go_num, rfl, by omega, hsum⟩
            case measure => simp [intOf]; omega
          · go_wp2
            go_ret
            exact ⟨rfl, Below.refl _ _⟩
        · as_aux_lemma =>
          have hnn := fun w => Lib.run_eql_slice_nil (P := Try.prog) w 28 31 none 0 0 0 0 Try.underlying28
          go_wp2_with fail
          refine (toks_any a n c kd tx ps w hn2 hT).mono ?_
          rintro e' w1 ⟨rfl, _, hB1⟩
          go_wp2_with fail
          refine (conj_none _ n n s e hs0 w1).mono ?_
          rintro e' w2 ⟨rfl, hB2⟩
          go_wp2
          go_ret
          exact ⟨rfl, hB1.trans (hB2.mono hB1.size)⟩
    · go_wp2
      go_ret
      exact ⟨rfl, Below.refl _ _⟩

set_option maxHeartbeats 2000000 in
set_option maxRecDepth 100000 in
theorem tile_neg (a : Option Addr) (n c : Nat) (kd : Nat → Int) (tx : Nat → ByteArray) (ps : Nat → Int) (s e : Int) (w : World) (hn : n ≤ maxLen) (ht : ∀ i, i < n → (tx i).size ≤ maxLen) (hT : IsToks w a n kd tx ps) (hs0 : s < e) (hs1 : s < 0) :
    Calls Try.prog 4 #[.slice a n c, .int .i64 s, .int .i64 e] w fun e w' => e = .returned (.bool true) ∧ Below w.heap.size w w' := by
  go_enter Try.func4, Try.ntmps4
  go_wp2_with fail
  refine (bytes9_any a n c kd tx ps s e w hn ht hT).mono ?_
  rintro e' wA ⟨⟨r, rfl, hr⟩, hw⟩
  obtain rfl : w = wA := hw.symm
  cases r with
  | false =>
    go_wp2
    go_ret
    exact ⟨rfl, Below.refl _ _⟩
  | true =>
    obtain ⟨_, hts⟩ := hr rfl
    clear hr
    by_cases hn2 : n ≤ 32768
    · go_wp2_with fail
      go_loop [7, 8] (fun z i => ∃ (k : Nat) (q : Int), k ≤ n ∧ i = .int .i64 k ∧ z = .int .i64 q ∧ 0 ≤ q ∧ q ≤ 1048576) (fun _ i => n - (intOf i).toNat)
      case atStart => exact ⟨0, _, Nat.zero_le _, rfl, rfl, by omega, by omega⟩
      case round =>
        obtain ⟨k, q, hk, rfl, rfl, hq0, hq1⟩ := hrel
        by_cases hlt : k < n
        · as_aux_lemma =>
          obtain ⟨b, off, rfl, hbl, _, h1, _⟩ := hT k hlt
          have hsz := hts k hlt
          generalize tx k = t at h1 hsz
          clear hts hT ht hs0 hs1
          by_cases hsum : q + t.size ≤ 1048576
          · go_wp2
            go_round
            case rel => exact ⟨k + 1, _, by omega, by go_num, rfl, by omega, hsum⟩
            case measure => simp [intOf]; omega
          · go_wp2
            go_ret
            exact ⟨rfl, Below.refl _ _⟩
        · as_aux_lemma =>
          go_wp2
          go_ret
          exact ⟨rfl, Below.refl _ _⟩
    · go_wp2
      go_ret
      exact ⟨rfl, Below.refl _ _⟩

set_option maxHeartbeats 2000000 in
set_option maxRecDepth 100000 in
theorem tile_over (a : Option Addr) (n c : Nat) (kd : Nat → Int) (tx : Nat → ByteArray) (ps : Nat → Int) (s e : Int) (w : World) (hn : n ≤ maxLen) (ht : ∀ i, i < n → (tx i).size ≤ maxLen) (hT : IsToks w a n kd tx ps) (hs0 : s < e) (hs1 : 0 ≤ s ∧ (n : Int) < e) :
    Calls Try.prog 4 #[.slice a n c, .int .i64 s, .int .i64 e] w fun e w' => e = .returned (.bool true) ∧ Below w.heap.size w w' := by
  go_enter Try.func4, Try.ntmps4
  go_wp2_with fail
  refine (bytes9_any a n c kd tx ps s e w hn ht hT).mono ?_
  rintro e' wA ⟨⟨r, rfl, hr⟩, hw⟩
  obtain rfl : w = wA := hw.symm
  cases r with
  | false =>
    go_wp2
    go_ret
    exact ⟨rfl, Below.refl _ _⟩
  | true =>
    obtain ⟨_, hts⟩ := hr rfl
    clear hr
    by_cases hn2 : n ≤ 32768
    · go_wp2_with fail
      go_loop [7, 8] (fun z i => ∃ (k : Nat) (q : Int), k ≤ n ∧ i = .int .i64 k ∧ z = .int .i64 q ∧ 0 ≤ q ∧ q ≤ 1048576) (fun _ i => n - (intOf i).toNat)
      case atStart => exact ⟨0, _, Nat.zero_le _, rfl, rfl, by omega, by omega⟩
      case round =>
        obtain ⟨k, q, hk, rfl, rfl, hq0, hq1⟩ := hrel
        by_cases hlt : k < n
        · as_aux_lemma =>
          obtain ⟨b, off, rfl, hbl, _, h1, _⟩ := hT k hlt
          have hsz := hts k hlt
          generalize tx k = t at h1 hsz
          clear hts hT ht hs0 hs1
          by_cases hsum : q + t.size ≤ 1048576
          · go_wp2
            go_round
            case rel => exact ⟨k + 1, _, by omega, by go_num, rfl, by omega, hsum⟩
            case measure => simp [intOf]; omega
          · go_wp2
            go_ret
            exact ⟨rfl, Below.refl _ _⟩
        · as_aux_lemma =>
          have hs2 : ¬ s < 0 := by omega
          go_wp2
          go_ret
          exact ⟨rfl, Below.refl _ _⟩
    · go_wp2
      go_ret
      exact ⟨rfl, Below.refl _ _⟩

end Go.Proofs.Qxb6630155a
