import Derived.Test.Qxb6630097aReader2
import Derived.Test.Qxb6630097aLeaf
import Derived.Test.Qxb6630097aLeaf2
namespace Go.Proofs.Qxb6630097a
open Go.RowKit

/-- THE SLICE (a, n) HOLDS the numbers g, in a block that lies. -/
def Cols (K : IntKind) (w : World) (a : Option Addr) (n : Nat) (g : Nat → Int) : Prop :=
  ∀ j, j < n → ∃ b off, a = some ⟨b, off, none⟩ ∧ b < w.heap.size ∧ w.cell? ⟨b, off + j, none⟩ = some (.int K (g j))
theorem Cols.below {K : IntKind} {w w' : World} {a : Option Addr} {n : Nat} {g : Nat → Int} (h : Cols K w a n g) (hb : Below w.heap.size w w') : Cols K w' a n g := fun j hj => by
  obtain ⟨b, off, e, hlt, hc⟩ := h j hj
  exact ⟨b, off, e, by have := hb.size; omega, (hb.cell (p := ⟨b, off + j, none⟩) hlt).trans hc⟩
theorem Cols.row {K : IntKind} {w : World} {a : Option Addr} {n : Nat} {g : Nat → Int} (h : Cols K w a (n + 1) g) : ∃ b off, a = some ⟨b, off, none⟩ ∧ b < w.heap.size ∧ ∀ j, j < n + 1 → w.cell? ⟨b, off + j, none⟩ = some (.int K (g j)) := by
  obtain ⟨b, off, rfl, hlt, _⟩ := h 0 (by omega)
  refine ⟨b, off, rfl, hlt, fun j hj => ?_⟩
  obtain ⟨b', off', e, _, hc⟩ := h j hj
  cases e
  exact hc
/-- A format at fb whose N steps, the numbers s, lie at sb. -/
structure IsFormat (w : World) (fb sb N : Nat) (s : Nat → Int) : Prop where
  lt : fb < w.heap.size
  cell : w.cell? ⟨fb, 1, none⟩ = some (.slice (some ⟨sb, 0, none⟩) N N)
  slt : sb < w.heap.size
  steps : ∀ i, i < N → w.cell? ⟨sb, i, none⟩ = some (.int .u16 (s i))
theorem IsFormat.below {w w' : World} {fb sb N : Nat} {s : Nat → Int} (h : IsFormat w fb sb N s) (hb : Below w.heap.size w w') : IsFormat w' fb sb N s :=
  ⟨by have := hb.size; have := h.lt; omega, (hb.cell (p := ⟨fb, 1, none⟩) h.lt).trans h.cell, by have := hb.size; have := h.slt; omega, fun i hi => (hb.cell (p := ⟨sb, i, none⟩) h.slt).trans (h.steps i hi)⟩
theorem IsReader.below {w w' : World} {r fb sb : Nat} {rs : List (Int × Int)} (h : IsReader w r fb sb rs) (hb : Below w.heap.size w w') : IsReader w' r fb sb rs := by
  have hs := hb.size
  obtain ⟨lt, c0, ⟨a, cap, c1, hx⟩, ⟨a2, n2, cap2, c2, h2⟩⟩ := h
  refine ⟨by omega, (hb.cell (p := ⟨r, 0, none⟩) lt).trans c0, ⟨a, cap, (hb.cell (p := ⟨r, 1, none⟩) lt).trans c1, fun i hi => ?_⟩, ⟨a2, n2, cap2, (hb.cell (p := ⟨r, 2, none⟩) lt).trans c2, h2⟩⟩
  obtain ⟨gb, e, hlt, h1, h2⟩ := hx i hi
  exact ⟨gb, e, by omega, (hb.cell (p := ⟨gb, i * 2, none⟩) hlt).trans h1, (hb.cell (p := ⟨gb, i * 2 + 1, none⟩) hlt).trans h2⟩

/-- rs: THE SPANS OF THE COLUMNS g 0 .. g (n-1), the last first. -/
structure Reads (N : Nat) (g : Nat → Int) (n : Nat) (rs : List (Int × Int)) : Prop where
  good : Good N rs
  cover : ∀ j, In j rs ↔ ∃ i, i < n ∧ g i = j
  len : rs.length ≤ n

def ReaderAns (w : World) (fb sb N : Nat) (g : Nat → Int) (n : Nat) (e : Ending) (w' : World) : Prop :=
  ∃ r rs, e = .returned (.pointer (some ⟨r, 0, none⟩)) ∧ w.heap.size ≤ r ∧ IsReader w' r fb sb rs ∧ Reads N g n rs ∧ Below w.heap.size w w'

theorem isSorted_none (a : Option Addr) (cap : Nat) (w : World) : Calls Try.prog 15 #[.slice a 0 cap] w fun e w' => e = .returned (.bool true) ∧ w' = w := by
  go_enter Try.func15, Try.ntmps15
  go_wp2
  refine wp_loop_rounds 1 ?_
  rw [rounds_succ]
  go_wp2
  go_ret
  exact ⟨rfl, rfl⟩

set_option maxHeartbeats 1000000 in
set_option maxRecDepth 100000 in
theorem reader_none (fb sb N : Nat) (a : Option Addr) (cap : Nat) (g : Nat → Int) (w : World) :
    Calls Try.prog 7 #[.pointer (some ⟨fb, 0, none⟩), .slice a 0 cap] w (ReaderAns w fb sb N g 0) := by
  go_enter Try.func7, Try.ntmps7
  go_wp2_with (go_at_call 15; refine (isSorted_none a cap _).mono ?_; rintro e w1 ⟨rfl, rfl⟩)
  go_wp2
  go_loopw [21] (fun i wr => i = .int .i64 0 ∧ AtK w1.heap.size (.pointer (some ⟨fb, 0, none⟩)) w1 [] wr) (fun _ _ => 0)
  case atStart => exact ⟨rfl, atK_start w1 _⟩
  case round =>
    obtain ⟨rfl, v, hR, hown, hb, hnil⟩ := hrel
    obtain rfl : v = .slice none 0 0 := hnil rfl
    have hR1 : wr.cell? ⟨w1.heap.size, 1, none⟩ = some (.slice none 0 0) := hR.cell (i := 1) (by omega)
    clear hnil
    go_wp2
    go_ret
    exact ⟨_, [], rfl, Nat.le_refl _, isReader_of hR hown rfl (fun h => absurd h (by omega)), ⟨trivial, fun j => by simp [In], by simp⟩, hb⟩

/-- NewColumnReader, AT EVERY LIST OF COLUMNS OF THE FORMAT. -/
theorem reader_any (fb sb N : Nat) (s : Nat → Int) (a : Option Addr) (n cap : Nat) (g : Nat → Int) (w : World) (hn : n ≤ 65536) (hN : N ≤ 65536) (hf : IsFormat w fb sb N s) (hc : Cols .i64 w a n g) (hbd : ∀ j, j < n → 0 ≤ g j ∧ g j < (N : Int)) :
    Calls Try.prog 7 #[.pointer (some ⟨fb, 0, none⟩), .slice a n cap] w (ReaderAns w fb sb N g n) := by
  cases n with
  | zero => exact reader_none fb sb N a cap g w
  | succ m =>
    obtain ⟨b, off, rfl, hlt, hcs⟩ := hc.row
    by_cases hs : Sorted g (m + 1)
    · refine (reader_sorted fb sb N b off (m + 1) cap g w hn hN hf.cell hf.lt hlt hcs hbd hs).mono ?_
      rintro e w' ⟨r, he, hr, hI, hb⟩
      have hk := kept_all hbd hs (m + 1) (Nat.le_refl _)
      exact ⟨r, _, he, hr, hI, ⟨hk.good, hk.cover, spansOf_length_le _ _⟩, hb⟩
    · refine (reader_unsorted fb sb N b off m cap g w hn hN hf.cell hf.lt hlt hcs hbd hs).mono ?_
      rintro e w' ⟨r, he, hr, hI, hb⟩
      have hk := kept_all (N := N) (n := m + 1) (g := sortedG g (m + 1)) (fun j hj => by
        obtain ⟨i, hi, e⟩ := (sortedG_mem g (m + 1) _).1 ⟨j, hj, rfl⟩
        rw [← e]
        exact hbd i hi) (sortedG_sorted g (m + 1)) (m + 1) (Nat.le_refl _)
      exact ⟨r, _, he, hr, hI, ⟨hk.good, fun j => (hk.cover j).trans (sortedG_mem g (m + 1) j), spansOf_length_le _ _⟩, hb⟩

/-- ZZnewRowFormat. -/
theorem format_of (a : Option Addr) (n cap : Nat) (g : Nat → Int) (w : World) (hn : n ≤ 65536) (h : Cols .u16 w a n g) :
    Calls Try.prog 6 #[.slice a n cap] w fun e w' => e = .returned (.pointer (some ⟨w.heap.size + 1, 0, none⟩)) ∧ IsFormat w' (w.heap.size + 1) w.heap.size n g ∧ Below w.heap.size w w' := by
  have hmk := run_make_row' (P := Try.prog) 40 41 (.int .u16 0) 2 Try.underlying40 Try.info41 rfl .i64 .i64 n (by omega) (by omega)
  go_enter Try.func6, Try.ntmps6
  go_wp2
  go_loopw [4] (fun i wr => ∃ k : Nat, k ≤ n ∧ i = .int .i64 k ∧ wr.rowIs w.heap.size 41 n (fun j => .int .u16 (if j < k then g j else 0)) ∧ wr.heap.size = w.heap.size + 1 ∧ Below w.heap.size w wr)
    (fun i _ => n - (intOf i).toNat)
  case atStart => exact ⟨0, Nat.zero_le _, rfl, World.rowIs_made _ _ _ _, by simp, (Below.refl _ _).alloc (Nat.le_refl _) _⟩
  case round =>
    obtain ⟨k, hk, rfl, hrow, hsz, hb⟩ := hrel
    by_cases hlt : k < n
    · obtain ⟨b, off, rfl, hlb, hck⟩ := h k hlt
      have hc : wr.cell? ⟨b, off + k, none⟩ = some (.int .u16 (g k)) := (hb.cell (p := ⟨b, off + k, none⟩) hlb).trans hck
      have hf := hrow.frozen k
      have hold := hrow.cell hlt
      go_wp2
      go_roundw
      case rel =>
        refine ⟨k + 1, by omega, by go_num, (hrow.set k _).congr ?_, by simpa using hsz, hb.setCell (Nat.le_refl _) _⟩
        intro j hj
        exact step_if _ _ _ _ rfl
      case measure => simp [intOf]; omega
    · go_wp2
      have hkn : k = n := by omega
      subst hkn
      go_ret
      have hrow2 := (hrow.alloc (.cells #[.slice none 0 0, .slice (some ⟨w.heap.size, 0, none⟩) k k] 44)).congr (g := fun j => .int .u16 (g j)) (fun j hj => by rw [if_pos hj])
      refine ⟨rfl, ⟨by simp [hsz], ?_, by simp [hsz]; omega, fun i hi => hrow2.cell hi⟩, hb.alloc (by omega) _⟩
      rw [World.cell?_alloc_at (hn := hsz.symm)]
      rfl

/-- ZZspans of a reader. -/
theorem spans_of (r fb sb : Nat) (rs : List (Int × Int)) (w : World) (hn : rs.length ≤ 65536) (hI : IsReader w r fb sb rs) :
    Calls Try.prog 10 #[.pointer (some ⟨r, 0, none⟩)] w fun e w' => e = .returned (.tuple #[.slice (some ⟨w.heap.size, 0, none⟩) rs.length rs.length, .slice (some ⟨w.heap.size + 1, 0, none⟩) rs.length rs.length]) ∧
      w'.rowIs w.heap.size 3 rs.length (fun i => .int .i64 (xOf rs i)) ∧ w'.rowIs (w.heap.size + 1) 3 rs.length (fun i => .int .i64 (yOf rs i)) ∧ Below w.heap.size w w' := by
  obtain ⟨hrs, _, ⟨a, cap, hr, hx⟩, _⟩ := hI
  generalize rs.length = n at *
  generalize xOf rs = x at *
  generalize yOf rs = y at *
  have hmk := run_make_row' (P := Try.prog) 23 3 (.int .i64 0) 8 Try.underlying23 Try.info3 rfl .i64 .i64 n (by omega) (by omega)
  go_enter Try.func10, Try.ntmps10
  go_wp2
  go_loopw [6] (fun i wr => ∃ k : Nat, k ≤ n ∧ i = .int .i64 k ∧ wr.rowIs w.heap.size 3 n (fun j => .int .i64 (if j < k then x j else 0)) ∧ wr.rowIs (w.heap.size + 1) 3 n (fun j => .int .i64 (if j < k then y j else 0)) ∧ Below w.heap.size w wr)
    (fun i _ => n - (intOf i).toNat)
  case atStart =>
    refine ⟨0, Nat.zero_le _, rfl, (World.rowIs_made _ _ _ _).alloc _, ?_, ((Below.refl _ _).alloc (Nat.le_refl _) _).alloc (by simp) _⟩
    have := World.rowIs_made (w.alloc (.cells (madeCells #[.int .i64 0] n) 3)) (.int .i64 0) n 3
    simpa using this
  case round =>
    obtain ⟨k, hk, rfl, hrow, hrow2, hb⟩ := hrel
    have hr2 : wr.cell? ⟨r, 1, none⟩ = some (.slice a n cap) := (hb.cell (p := ⟨r, 1, none⟩) hrs).trans hr
    by_cases hlt : k < n
    · obtain ⟨gb, rfl, hgl, hgx, hgy⟩ := hx k hlt
      have hc : wr.cell? ⟨gb, k * 2, none⟩ = some (.int .i64 (x k)) := (hb.cell (p := ⟨gb, k * 2, none⟩) hgl).trans hgx
      have hc2 : wr.cell? ⟨gb, k * 2 + 1, none⟩ = some (.int .i64 (y k)) := (hb.cell (p := ⟨gb, k * 2 + 1, none⟩) hgl).trans hgy
      have hf := hrow.frozen k
      have hold := hrow.cell hlt
      have hf2 := hrow2.frozen k
      have hold2 := hrow2.cell hlt
      clear hgx hgy
      go_wp2
      go_roundw
      case rel =>
        refine ⟨k + 1, by omega, by go_num, ((hrow.set k _).setOther (by simp) _).congr ?_, ((hrow2.setOther (by simp) _).set k _).congr ?_, (hb.setCell (Nat.le_refl _) _).setCell (by simp) _⟩
        all_goals
          intro j hj
          exact step_if _ _ _ _ rfl
      case measure => simp [intOf]; omega
    · go_wp2
      have hkn : k = n := by omega
      subst hkn
      go_ret2
      exact ⟨rfl, hrow.congr (fun j hj => by rw [if_pos hj]), hrow2.congr (fun j hj => by rw [if_pos hj]), hb⟩

theorem lastE_le {N : Nat} {rs : List (Int × Int)} (h : Good N rs) : 0 ≤ lastE rs ∧ lastE rs ≤ (N : Int) := by
  cases rs with
  | nil => simp [lastE]
  | cons p r => obtain ⟨a, b, c, _⟩ := good_cons h; exact ⟨by show 0 ≤ p.2; omega, c⟩

/-- ZZsteps of a reader: the format's steps up to the last end. -/
theorem steps_of (r fb sb N : Nat) (s : Nat → Int) (rs : List (Int × Int)) (w : World) (hN : N ≤ 65536) (hI : IsReader w r fb sb rs) (hg : Good N rs) (hF : IsFormat w fb sb N s) :
    Calls Try.prog 12 #[.pointer (some ⟨r, 0, none⟩)] w fun e w' => ∃ m : Nat, (m : Int) = lastE rs ∧ e = .returned (.slice (some ⟨w.heap.size, 0, none⟩) m m) ∧
      w'.rowIs w.heap.size 36 m (fun i => .int .u16 (s i)) ∧ Below w.heap.size w w' := by
  obtain ⟨hrs, _, _, a, n, cap, hr, hnE, ha⟩ := hI
  have hle := lastE_le hg
  refine (steps_any r a n cap s w (by omega) hr hrs (fun i hi => ⟨sb, ha (by omega), hF.slt, hF.steps i (by omega)⟩)).mono ?_
  rintro e w' ⟨he, hrow, _, hb⟩
  exact ⟨n, hnE, he, hrow, hb⟩
end Go.Proofs.Qxb6630097a
