import Derived.Test.Qxb6630097aMarks
import Derived.Test.Qxb6630097aIter
import Derived.Maps.AppendAt
namespace Go.Proofs.Qxb6630097a
open Go.RowKit

/-! ### Plain: where spans with gaps begin and end -/
theorem y_le_pe {x y : Nat → Int} {m N : Nat} (h : WF x y m N) : ∀ k, k ≤ m → ∀ i, i < k → y i ≤ pe y k
  | 0, _, i, hi => absurd hi (by omega)
  | k + 1, hk, i, hi => by
    show y i ≤ y k
    by_cases e : i = k
    · subst e; omega
    · have h1 := y_le_pe h k (by omega) i (by omega)
      have h2 := h k (by omega)
      omega
theorem x_mono {x y : Nat → Int} {m N : Nat} (h : WF x y m N) (k : Nat) : ∀ d, k + d < m → x k ≤ x (k + d)
  | 0, _ => Int.le_refl _
  | d + 1, hd => by
    have h1 := x_mono h k d (by omega)
    have h2 := h (k + d) (by omega)
    have h3 := h (k + d + 1) (by omega)
    have h4 : pe y (k + d + 1) = y (k + d) := rfl
    show x k ≤ x (k + d + 1)
    omega
theorem cov_at {x y : Nat → Int} {m : Nat} {k j : Nat} (hk : k < m) (h1 : x k ≤ (j : Int)) (h2 : (j : Int) < y k) : cov x y m j = true := by
  simp only [cov, decide_eq_true_eq]; exact ⟨k, hk, h1, h2⟩
theorem cov_between {x y : Nat → Int} {m N : Nat} (h : WF x y m N) {k j : Nat} (hk : k ≤ m) (h1 : pe y k ≤ (j : Int)) (h2 : k < m → (j : Int) < x k) : cov x y m j = false := by
  simp only [cov, decide_eq_false_iff_not]
  rintro ⟨i, hi, a, b⟩
  by_cases e : i < k
  · have := y_le_pe h k hk i e; omega
  · have := x_mono h k (i - k) (by omega)
    rw [show k + (i - k) = i by omega] at this
    have := h2 (by omega)
    omega
theorem cov_gap {x y : Nat → Int} {m N : Nat} (h : WF x y m N) {k j : Nat} (hk : k < m) (e : (j : Int) = y k) : cov x y m j = false := by
  refine cov_between h (k := k + 1) (by omega) (by show y k ≤ _; omega) (fun hk1 => ?_)
  have := h (k + 1) hk1
  have h4 : pe y (k + 1) = y k := rfl
  omega
theorem start_of {x y : Nat → Int} {m N : Nat} (h : WF x y m N) {k j : Nat} (hk : k ≤ m) (h1 : pe y k ≤ (j : Int)) (h2 : k < m → (j : Int) ≤ x k) (hc : cov x y m j = true) : k < m ∧ (j : Int) = x k := by
  have hk2 : k < m := by
    rcases Nat.lt_or_ge k m with h3 | h3
    · exact h3
    · have := cov_between h hk h1 (fun h4 => absurd h4 (by omega)); rw [this] at hc; cases hc
  refine ⟨hk2, ?_⟩
  rcases Int.lt_or_le (j : Int) (x k) with h3 | h3
  · have := cov_between h hk h1 (fun _ => h3); rw [this] at hc; cases hc
  · have := h2 hk2; omega

/-! ### Two slices of the call's own that grow -/
structure Two (B : Nat) (w : World) (v1 v2 : Value) (k1 k2 : Nat) (X Y : List Value) : Prop where
  own1 : w.ownsRow B 3 1 v1 k1 X
  own2 : w.ownsRow B 3 1 v2 k2 Y
  apart : ∀ j, v1.ownBlock = some j → v2.ownBlock ≠ some j
theorem Two.swap {B : Nat} {w : World} {v1 v2 : Value} {k1 k2 : Nat} {X Y : List Value} (h : Two B w v1 v2 k1 k2 X Y) : Two B w v2 v1 k2 k1 Y X := ⟨h.own2, h.own1, fun j e1 e2 => h.apart j e2 e1⟩
theorem Two.appended {B : Nat} {w w' : World} {v1 v2 v' : Value} {k1 k2 k' : Nat} {X Y X' : List Value} {O : Obj} (h : Two B w v1 v2 k1 k2 X Y) (hown : w'.ownsRow B 3 1 v' k' X') (hg : (w.alloc O).grownBy w' v1.ownBlock)
    (hat : v'.ownBlock = v1.ownBlock ∨ v'.ownBlock = some (w.alloc O).heap.size) : Two B w' v' v2 k' k2 X' Y := by
  refine ⟨hown, (h.own2.alloc O).kept hg ?_, ?_⟩
  · cases h2 : v2.ownBlock with
    | none => exact .inl rfl
    | some j => exact .inr (fun e => h.apart j e.symm h2)
  · intro j e1 e2
    rcases hat with e | e
    · exact h.apart j (e ▸ e1) e2
    · have hj := (h.own2.lt j e2).2
      rw [e1] at e
      simp at e
      omega
theorem Two.below {B : Nat} {w0 w w' : World} {v1 v2 : Value} {k1 k2 : Nat} {X Y : List Value} {O : Obj} (h : Two B w v1 v2 k1 k2 X Y) (hb : Below B w0 w) (hB : B ≤ w.heap.size) (hg : (w.alloc O).grownBy w' v1.ownBlock) : Below B w0 w' :=
  (hb.alloc hB O).grown hg (by simp; omega) (fun j e => (h.own1.lt j e).1)

def RunsAns (w : World) (x y : Nat → Int) (m : Nat) (e : Ending) (w' : World) : Prop :=
  ∃ v1 v2, e = .returned (.tuple #[v1, v2]) ∧ w'.ownsRow w.heap.size 3 1 v1 m ((upto x m).map (Value.int .i64)) ∧ w'.ownsRow w.heap.size 3 1 v2 m ((upto y m).map (Value.int .i64)) ∧ Below w.heap.size w w'

theorem upto_map_succ (x : Nat → Int) (k : Nat) : (upto x (k + 1)).map (Value.int .i64) = (upto x k).map (Value.int .i64) ++ [.int .i64 (x k)] := by rw [upto_succ]; simp

set_option maxHeartbeats 1000000 in
set_option maxRecDepth 100000 in
theorem runs_any (mb N cap m : Nat) (x y : Nat → Int) (w : World) (hN : N ≤ 65536) (hm : m ≤ 65536) (hwf : WF x y m N) (hrow : w.rowIs mb 4 N fun j => .bool (cov x y m j)) :
    Calls Try.prog 9 #[.slice (some ⟨mb, 0, none⟩) N cap] w (RunsAns w x y m) := by
  obtain ⟨i0, hi, hz0, hz1, hz2⟩ := info_parts Try.info3i
  have hmb := hrow.lt
  go_enter Try.func9, Try.ntmps9
  go_wp2
  go_loopw [4, 5, 6, 7] (fun v1 v2 i _ wr => ∃ k d : Nat, k ≤ m ∧ d ≤ N ∧ i = .int .i64 d ∧ pe y k ≤ (d : Int) ∧ (k < m → (d : Int) ≤ x k) ∧ Two w.heap.size wr v1 v2 k k ((upto x k).map (Value.int .i64)) ((upto y k).map (Value.int .i64)) ∧ Below w.heap.size w wr)
    (fun _ _ i _ _ => N - (intOf i).toNat)
  case atStart => exact ⟨0, 0, Nat.zero_le _, Nat.zero_le _, rfl, by show (-1 : Int) ≤ _; omega, fun h => (hwf 0 h).1, ⟨World.ownsRow_nil _ _ _ _, World.ownsRow_nil _ _ _ _, fun j e => by cases e⟩, Below.refl _ _⟩
  case round =>
    obtain ⟨k, d, hk, hd, rfl, hpe, hxk, hT, hb⟩ := hrel
    by_cases hlt : d < N
    · have hcell : wr.cell? ⟨mb, d, none⟩ = some (.bool (cov x y m d)) := (hb.cell (p := ⟨mb, d, none⟩) hmb).trans (hrow.cell hlt)
      cases hcv : cov x y m d with
      | false =>
        rw [hcv] at hcell
        have hnx : k < m → ((d + 1 : Nat) : Int) ≤ x k := fun h => by
          have h1 := hxk h
          have h2 : (d : Int) ≠ x k := fun e => by
            have := cov_at (x := x) (y := y) h (by omega) (by have := hwf k h; omega : (d : Int) < y k)
            rw [this] at hcv; cases hcv
          omega
        have HN : Hid (k < m → ((d + 1 : Nat) : Int) ≤ x k) := hnx
        clear hcv hnx hxk hrow hwf
        go_wp2
        go_roundw
        case rel => exact ⟨k, d + 1, hk, by omega, by go_num, by omega, HN.out, hT, hb⟩
        case measure => simp [intOf]; omega
      | true =>
        rw [hcv] at hcell
        obtain ⟨hkm, hdx⟩ := start_of hwf hk hpe hxk hcv
        obtain ⟨q0, q1, q2, q3⟩ := hwf k hkm
        have hnext : ∀ e : Nat, (e : Int) = y k → (k + 1 < m → (e : Int) ≤ x (k + 1)) := fun e he hk1 => by
          have := (hwf (k + 1) hk1).2.2.2
          have h4 : pe y (k + 1) = y k := rfl
          omega
        have hmarks : ∀ j : Nat, x k ≤ (j : Int) → (j : Int) < y k → wr.cell? ⟨mb, j, none⟩ = some (.bool true) := fun j h1 h2 => by
          rw [(hb.cell (p := ⟨mb, j, none⟩) hmb), hrow.cell (by omega), cov_at hkm h1 h2]
        have hgap : ∀ j : Nat, (j : Int) = y k → j < N → wr.cell? ⟨mb, j, none⟩ = some (.bool false) := fun j h1 h2 => by
          rw [(hb.cell (p := ⟨mb, j, none⟩) hmb), hrow.cell h2, cov_gap hwf hkm h1]
        have HX : Hid ((d : Int) = x k) := hdx
        have HNX : Hid (∀ e : Nat, (e : Int) = y k → (k + 1 < m → (e : Int) ≤ x (k + 1))) := hnext
        have HM : Hid (∀ j : Nat, x k ≤ (j : Int) → (j : Int) < y k → wr.cell? ⟨mb, j, none⟩ = some (.bool true)) := hmarks
        have HGp : Hid (∀ j : Nat, (j : Int) = y k → j < N → wr.cell? ⟨mb, j, none⟩ = some (.bool false)) := hgap
        clear hcv hxk hrow hwf hdx hnext hmarks hgap hpe
        go_wp2
        go_loop [6] (fun c => ∃ f : Nat, x k ≤ (f : Int) ∧ (f : Int) ≤ y k ∧ c = .int .i64 f) (fun c => (y k - intOf c).toNat)
        case atStart => exact ⟨d, by have := HX.out; omega, by have := HX.out; omega, rfl⟩
        case round =>
          obtain ⟨f, hf1, hf2, rfl⟩ := hrel
          by_cases hfl : (f : Int) < y k
          · have hc := HM.out f hf1 hfl
            have hfN : f < N := by omega
            go_wp2
            go_round
            case rel => exact ⟨f + 1, by omega, by omega, by go_num⟩
            case measure => simp [intOf]; omega
          · have hfy : (f : Int) = y k := by omega
            have HF : Hid ((f : Int) = y k) := hfy
            have hstop : f < N → wr.cell? ⟨mb, f, none⟩ = some (.bool false) := HGp.out f hfy
            clear hfy
            rcases Nat.lt_or_ge f N with hfN | hfN
            all_goals
              try have hc := hstop hfN
              clear hstop HM HGp
              go_wp2_with (first
                | (at_builtin; refine wpList_append_own_at _ rfl (.tmp 29) (.tmp 31) 23 rfl w.heap.size 3 i0 (.int .i64 0) 1 8 Try.underlying23 hi hz0 hz1 hz2 rfl (by decide) _ _ _ rfl (hT.own1.alloc _) ⟨wr.heap.size, 0, none⟩ 1 1 [.int .i64 d] rfl rfl (cell_one_new _ _ _) (by simp [Value.oneCell']) (by unfold maxLen; omega) (by omega) (by have := hb.size; simp; omega) ?_; intro v1' wp hown1 hg1 _ hat1; have hT1 := hT.appended hown1 hg1 hat1; have hb1 := hT.below hb hb.size hg1; obtain ⟨g1', c1', rfl⟩ := ownsRow_succ hown1; clear hown1 hg1 hat1)
                | (at_builtin; refine wpList_append_own_at _ rfl (.tmp 33) (.tmp 35) 23 rfl w.heap.size 3 i0 (.int .i64 0) 1 8 Try.underlying23 hi hz0 hz1 hz2 rfl (by decide) _ _ _ rfl (hT1.own2.alloc _) ⟨wp.heap.size, 0, none⟩ 1 1 [.int .i64 f] rfl rfl (cell_one_new _ _ _) (by simp [Value.oneCell']) (by unfold maxLen; omega) (by omega) (by have := hb1.size; simp; omega) ?_; intro v2' wq hown2 hg2 _ hat2; have hT2 := (hT1.swap.appended hown2 hg2 hat2).swap; have hb2 := hT1.swap.below hb1 hb1.size hg2; obtain ⟨g2', c2', rfl⟩ := ownsRow_succ hown2; clear hown2 hg2 hat2))
              go_roundw
              case rel =>
                refine ⟨k + 1, f, by omega, by omega, rfl, by show y k ≤ _; have := HF.out; omega, HNX.out f HF.out, ?_, hb2⟩
                rw [upto_map_succ, upto_map_succ, ← HX.out, ← HF.out]
                exact hT2
              case measure => have := HF.out; have := HX.out; simp [intOf]; omega
    · have hkm : k = m := by
        rcases Nat.lt_or_ge k m with h | h
        · have h1 := hxk h
          have := hwf k h
          omega
        · omega
      subst hkm
      clear hxk hwf hrow
      go_wp2
      go_ret2
      exact ⟨_, _, rfl, hT.own1, hT.own2, hb⟩
#print axioms runs_any
end Go.Proofs.Qxb6630097a
