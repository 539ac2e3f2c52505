import Derived.Test.Qxb6630155aProg
import Derived.WalkKit
import Derived.WalkSpells
import Derived.WalkLawsBesides
import Derived.Deep.OwnRows
import Derived.RegionTactic
import Derived.BigRegion
namespace Go.Proofs.Qxb6630155a
open Go.RowKit

/-- THE SLICE (a, n) HOLDS the tokens (kd i, tx i, ps i), three cells each, in a block that lies. -/
def IsToks (w : World) (a : Option Addr) (n : Nat) (kd : Nat → Int) (tx : Nat → ByteArray) (ps : Nat → Int) : Prop :=
  ∀ i, i < n → ∃ b off, a = some ⟨b, off, none⟩ ∧ b < w.heap.size ∧ w.cell? ⟨b, off + i * 3, none⟩ = some (.int .i64 (kd i)) ∧ w.cell? ⟨b, off + i * 3 + 1, none⟩ = some (.string (tx i)) ∧ w.cell? ⟨b, off + i * 3 + 2, none⟩ = some (.int .i64 (ps i))
theorem IsToks.below {w w' : World} {a : Option Addr} {n : Nat} {kd : Nat → Int} {tx : Nat → ByteArray} {ps : Nat → Int} (h : IsToks w a n kd tx ps) (hb : Below w.heap.size w w') : IsToks w' a n kd tx ps := fun i hi => by
  obtain ⟨b, off, e, hlt, h0, h1, h2⟩ := h i hi
  exact ⟨b, off, e, by have := hb.size; omega, (hb.cell (p := ⟨b, off + i * 3, none⟩) hlt).trans h0, (hb.cell (p := ⟨b, off + i * 3 + 1, none⟩) hlt).trans h1, (hb.cell (p := ⟨b, off + i * 3 + 2, none⟩) hlt).trans h2⟩

def BytesAns (n : Nat) (tx : Nat → ByteArray) (e : Ending) : Prop := ∃ r : Bool, e = .returned (.bool r) ∧ (r = true → n ≤ 1048576 ∧ ∀ i, i < n → (tx i).size ≤ 1048576)

set_option maxRecDepth 10000 in
theorem bytes5_any (a : Option Addr) (n c : Nat) (kd : Nat → Int) (tx : Nat → ByteArray) (ps : Nat → Int) (s e : Int) (w : World) (hn : n ≤ maxLen) (ht : ∀ i, i < n → (tx i).size ≤ maxLen) (hT : IsToks w a n kd tx ps) :
    Calls Try.prog 5 #[.slice a n c, .int .i64 s, .int .i64 e] w fun e w' => BytesAns n tx e ∧ w' = w := by
  unfold maxLen at hn ht
  by_cases h0 : n ≤ 1048576
  · go_enter Try.func5, Try.ntmps5
    go_wp2
    go_loop [7, 8] (fun z i => ∃ (k : Nat) (q : Int), k ≤ n ∧ i = .int .i64 k ∧ z = .int .i64 q ∧ 0 ≤ q ∧ q ≤ 1048576 ∧ ∀ j, j < k → (tx j).size ≤ 1048576) (fun _ i => n - (intOf i).toNat)
    case atStart => exact ⟨0, n, Nat.zero_le _, rfl, rfl, by omega, by omega, fun j hj => absurd hj (by omega)⟩
    case round =>
      obtain ⟨k, q, hk, rfl, rfl, hq0, hq1, hall⟩ := hrel
      have HA : Hid (∀ j, j < k → (tx j).size ≤ 1048576) := hall
      clear hall
      by_cases hlt : k < n
      · obtain ⟨b, off, rfl, hbl, _, h1, _⟩ := hT k hlt
        have hsz := ht k hlt
        obtain ⟨t, hte⟩ : ∃ t, tx k = t := ⟨_, rfl⟩
        rw [hte] at h1 hsz
        have HT : Hid (tx k = t) := hte
        clear hte ht hT
        by_cases hbig : t.size ≤ 1048576
        · by_cases hsum : q + t.size ≤ 1048576
          · go_wp2
            go_round
            case rel =>
              refine ⟨k + 1, _, by omega, by go_num, rfl, by omega, hsum, fun j hj => ?_⟩
              by_cases e : j = k
              · subst e; rw [HT.out]; exact hbig
              · exact HA.out j (by omega)
            case measure => simp [intOf]; omega
          · go_wp2
            go_ret
            exact ⟨⟨false, rfl, fun h => by cases h⟩, rfl⟩
        · go_wp2
          go_ret
          exact ⟨⟨false, rfl, fun h => by cases h⟩, rfl⟩
      · obtain rfl : n = k := by omega
        go_wp2
        go_ret
        exact ⟨⟨true, rfl, fun _ => ⟨h0, HA.out⟩⟩, rfl⟩
  · clear hT ht
    go_enter Try.func5, Try.ntmps5
    go_wp2
    go_ret
    exact ⟨⟨false, rfl, fun h => by cases h⟩, rfl⟩

set_option maxRecDepth 10000 in
theorem bytes9_any (a : Option Addr) (n c : Nat) (kd : Nat → Int) (tx : Nat → ByteArray) (ps : Nat → Int) (s e : Int) (w : World) (hn : n ≤ maxLen) (ht : ∀ i, i < n → (tx i).size ≤ maxLen) (hT : IsToks w a n kd tx ps) :
    Calls Try.prog 9 #[.slice a n c, .int .i64 s, .int .i64 e] w fun e w' => BytesAns n tx e ∧ w' = w := by
  unfold maxLen at hn ht
  by_cases h0 : n ≤ 1048576
  · go_enter Try.func9, Try.ntmps9
    go_wp2
    go_loop [7, 8] (fun z i => ∃ (k : Nat) (q : Int), k ≤ n ∧ i = .int .i64 k ∧ z = .int .i64 q ∧ 0 ≤ q ∧ q ≤ 1048576 ∧ ∀ j, j < k → (tx j).size ≤ 1048576) (fun _ i => n - (intOf i).toNat)
    case atStart => exact ⟨0, n, Nat.zero_le _, rfl, rfl, by omega, by omega, fun j hj => absurd hj (by omega)⟩
    case round =>
      obtain ⟨k, q, hk, rfl, rfl, hq0, hq1, hall⟩ := hrel
      have HA : Hid (∀ j, j < k → (tx j).size ≤ 1048576) := hall
      clear hall
      by_cases hlt : k < n
      · obtain ⟨b, off, rfl, hbl, _, h1, _⟩ := hT k hlt
        have hsz := ht k hlt
        obtain ⟨t, hte⟩ : ∃ t, tx k = t := ⟨_, rfl⟩
        rw [hte] at h1 hsz
        have HT : Hid (tx k = t) := hte
        clear hte ht hT
        by_cases hbig : t.size ≤ 1048576
        · by_cases hsum : q + t.size ≤ 1048576
          · go_wp2
            go_round
            case rel =>
              refine ⟨k + 1, _, by omega, by go_num, rfl, by omega, hsum, fun j hj => ?_⟩
              by_cases e : j = k
              · subst e; rw [HT.out]; exact hbig
              · exact HA.out j (by omega)
            case measure => simp [intOf]; omega
          · go_wp2
            go_ret
            exact ⟨⟨false, rfl, fun h => by cases h⟩, rfl⟩
        · go_wp2
          go_ret
          exact ⟨⟨false, rfl, fun h => by cases h⟩, rfl⟩
      · obtain rfl : n = k := by omega
        go_wp2
        go_ret
        exact ⟨⟨true, rfl, fun _ => ⟨h0, HA.out⟩⟩, rfl⟩
  · clear hT ht
    go_enter Try.func9, Try.ntmps9
    go_wp2
    go_ret
    exact ⟨⟨false, rfl, fun h => by cases h⟩, rfl⟩

theorem Try.info36 : (Try.prog.info? 36).map (fun i => (i.zero, i.size, i.bytes)) = some (some (.agg #[.int .i64 0, .string ⟨#[]⟩, .int .i64 0]), 3, 32) := by kernel_rfl

/-- The cells of token i. -/
def tcell (kd : Nat → Int) (tx : Nat → ByteArray) (ps : Nat → Int) (j : Nat) : Value :=
  if j % 3 = 0 then .int .i64 (kd (j / 3)) else if j % 3 = 1 then .string (tx (j / 3)) else .int .i64 (ps (j / 3))
def zcell (j : Nat) : Value := if j % 3 = 1 then .string ⟨#[]⟩ else .int .i64 0

theorem tcell_step (kd : Nat → Int) (tx : Nat → ByteArray) (ps : Nat → Int) (k j : Nat) :
    (if j = k * 3 + 2 then Value.int .i64 (ps k) else if j = k * 3 + 1 then .string (tx k) else if j = k * 3 then .int .i64 (kd k) else if j < k * 3 then tcell kd tx ps j else zcell j) = if j < (k + 1) * 3 then tcell kd tx ps j else zcell j := by
  by_cases e2 : j = k * 3 + 2
  · rw [if_pos e2, if_pos (by omega)]
    unfold tcell
    rw [if_neg (by omega), if_neg (by omega), show j / 3 = k by omega]
  · rw [if_neg e2]
    by_cases e1 : j = k * 3 + 1
    · rw [if_pos e1, if_pos (by omega)]
      unfold tcell
      rw [if_neg (by omega), if_pos (by omega), show j / 3 = k by omega]
    · rw [if_neg e1]
      by_cases e0 : j = k * 3
      · rw [if_pos e0, if_pos (by omega)]
        unfold tcell
        rw [if_pos (by omega), show j / 3 = k by omega]
      · rw [if_neg e0]
        by_cases h : j < k * 3
        · rw [if_pos h, if_pos (by omega)]
        · rw [if_neg h, if_neg (by omega)]
theorem zcell_made (n i : Nat) (h : i < n * 3) : (madeCells #[.int .i64 0, .string ⟨#[]⟩, .int .i64 0] (n * 3))[i]? = some (zcell i) := by
  have hm : i % 3 = 0 ∨ i % 3 = 1 ∨ i % 3 = 2 := by omega
  simp only [madeCells, Array.getElem?_map, Array.getElem?_range, h, if_true, Option.map_some, zcell]
  rcases hm with e | e | e <;> simp [e]
theorem isToks_of {w : World} {b n : Nat} {kd : Nat → Int} {tx : Nat → ByteArray} {ps : Nat → Int} (h : w.rowIs b 36 (n * 3) (fun j => if j < n * 3 then tcell kd tx ps j else zcell j)) : IsToks w (some ⟨b, 0, none⟩) n kd tx ps := fun i hi => by
  refine ⟨b, 0, rfl, h.lt, ?_, ?_, ?_⟩
  · rw [Nat.zero_add, h.cell (i := i * 3) (by omega), if_pos (by omega)]
    unfold tcell
    rw [if_pos (by omega), show i * 3 / 3 = i by omega]
  · rw [Nat.zero_add, h.cell (i := i * 3 + 1) (by omega), if_pos (by omega)]
    unfold tcell
    rw [if_neg (by omega), if_pos (by omega), show (i * 3 + 1) / 3 = i by omega]
  · rw [Nat.zero_add, h.cell (i := i * 3 + 2) (by omega), if_pos (by omega)]
    unfold tcell
    rw [if_neg (by omega), if_neg (by omega), show (i * 3 + 2) / 3 = i by omega]

set_option maxHeartbeats 1000000 in
theorem toks_any (a : Option Addr) (n c : Nat) (kd : Nat → Int) (tx : Nat → ByteArray) (ps : Nat → Int) (w : World) (hn : n ≤ 32768) (hT : IsToks w a n kd tx ps) :
    Calls Try.prog 6 #[.slice a n c] w fun e w' => e = .returned (.slice (some ⟨w.heap.size, 0, none⟩) n n) ∧ IsToks w' (some ⟨w.heap.size, 0, none⟩) n kd tx ps ∧ Below w.heap.size w w' := by
  obtain ⟨i0, hi, hz0, hz1, hz2⟩ := info_parts Try.info36
  have hmk : ∀ w : World, (Instr.makeSlice 26 (.int .i64 (n : Int)) (.int .i64 (n : Int))).run Try.prog w = .ok (.slice (some ⟨w.heap.size, 0, none⟩) n n) (w.alloc (.cells (madeCells #[.int .i64 0, .string ⟨#[]⟩, .int .i64 0] (n * 3)) 36)) := fun w => by
    have hr := run_make (P := Try.prog) w 26 36 i0 _ Try.underlying26 hi hz0 .i64 .i64 n n (by omega) (Int.le_refl _) (by rw [hz2]; omega) (by omega)
    simp only [Int.toNat_natCast, hz1] at hr
    exact hr
  clear hi hz0 hz1 hz2
  go_enter Try.func6, Try.ntmps6
  go_wp2
  go_loopw [4] (fun i wr => ∃ k : Nat, k ≤ n ∧ i = .int .i64 k ∧ wr.rowIs w.heap.size 36 (n * 3) (fun j => if j < k * 3 then tcell kd tx ps j else zcell j) ∧ Below w.heap.size w wr) (fun i _ => n - (intOf i).toNat)
  case atStart =>
    refine ⟨0, Nat.zero_le _, rfl, ?_, (Below.refl _ _).alloc (Nat.le_refl _) _⟩
    have h := World.rowIs_alloc w (madeCells #[.int .i64 0, .string ⟨#[]⟩, .int .i64 0] (n * 3)) 36 zcell (fun i hi => zcell_made n i (by rwa [size_madeCells] at hi))
    rw [size_madeCells] at h
    exact h.congr (fun j _ => by rw [if_neg (by omega)])
  case round =>
    obtain ⟨k, hk, rfl, hrow, hb⟩ := hrel
    by_cases hlt : k < n
    · obtain ⟨b, off, rfl, hbl, h0, h1, h2⟩ := hT k hlt
      have c0 := (hb.cell (p := ⟨b, off + k * 3, none⟩) hbl).trans h0
      have c1 := (hb.cell (p := ⟨b, off + k * 3 + 1, none⟩) hbl).trans h1
      have c2 := (hb.cell (p := ⟨b, off + k * 3 + 2, none⟩) hbl).trans h2
      have f0 := hrow.frozen (k * 3)
      have f1 := hrow.frozen (k * 3 + 1)
      have f2 := hrow.frozen (k * 3 + 2)
      have o0 := hrow.cell (i := k * 3) (by omega)
      have o1 := hrow.cell (i := k * 3 + 1) (by omega)
      have o2 := hrow.cell (i := k * 3 + 2) (by omega)
      generalize (if k * 3 < k * 3 then tcell kd tx ps (k * 3) else zcell (k * 3)) = z0 at o0
      generalize (if k * 3 + 1 < k * 3 then tcell kd tx ps (k * 3 + 1) else zcell (k * 3 + 1)) = z1 at o1
      generalize (if k * 3 + 2 < k * 3 then tcell kd tx ps (k * 3 + 2) else zcell (k * 3 + 2)) = z2 at o2
      have hki : (k : Int) < (n : Int) := by omega
      clear hT h0 h1 h2 hmk
      go_wp2
      go_region
      go_wp2
      go_roundw
      case rel =>
        refine ⟨k + 1, by omega, by go_num, ((((hrow.set (k * 3) _).set (k * 3 + 1) _).set (k * 3 + 2) _).congr (fun j _ => tcell_step kd tx ps k j)).drew, ?_⟩
        exact (((hb.setCell (Nat.le_refl _) _).setCell (Nat.le_refl _) _).setCell (Nat.le_refl _) _).drew
      case measure => simp [intOf]; omega
    · obtain rfl : n = k := by omega
      go_wp2
      go_ret
      exact ⟨rfl, isToks_of hrow, hb⟩
end Go.Proofs.Qxb6630155a
