import Derived.Test.Qxb6630199aPad
namespace Go.Proofs.Qxb6630199a
open Go.RowKit

def cellV (V t j : Nat) : Nat := if 20 - t ≤ j then digAt V 20 j else 0
theorem cellV_set (V t j : Nat) (ht : t < 20) : (if j = 19 - t then (48 + V / 10 ^ t % 10) else cellV V t j) = cellV V (t + 1) j := by
  unfold cellV digAt
  by_cases h : j = 19 - t
  · rw [if_pos h, if_pos (by omega), h, show 20 - 1 - (19 - t) = t by omega]
  · rw [if_neg h]
    by_cases h2 : 20 - t ≤ j
    · rw [if_pos h2, if_pos (by omega)]
    · rw [if_neg h2, if_neg (by omega)]
theorem digit_room {V t d : Nat} (h : V < 10 ^ d) (h0 : V / 10 ^ t ≠ 0) : t < d := by
  by_cases hlt : t < d
  · exact hlt
  · exact absurd (Nat.div_eq_of_lt (Nat.lt_of_lt_of_le h (Nat.pow_le_pow_right (by omega) (by omega)))) h0

def szOf : Value → Nat
  | .string s => s.size
  | _ => 0
theorem slice36 (W : World) (b O T : Nat) (h : O + T = 20) (hT : 0 < T) : (Instr.sliceAt 36 (.pointer (some ⟨b, 0, none⟩)) (some (.int .i64 (O : Int))) none none).run Try.prog W = .ok (.slice (some ⟨b, O, none⟩) T T) W := by
  have ha : Try.prog.arrayLen 36 = 20 := by kernel_rfl
  have he : Try.prog.elem 36 = 5 := by kernel_rfl
  have hu : Try.prog.underlying 36 = some (.array (Try.prog.arrayLen 36) (Try.prog.elem 36)) := by kernel_rfl
  have hz : (Go.sizeOf 5).run Try.prog W = .ok 1 W := by kernel_rfl
  rw [run_sliceAt_array_l W 36 _ hu .i64 _ (by omega) (by rw [ha]; omega), ha, he, hz]
  have e1 : 20 - O = T := by omega
  have e2 : ¬ 20 = O := by omega
  simp [slicedAt, Result.andThen, Addr.add, e1, e2]
  exact fun h => h.symm

set_option maxHeartbeats 1000000 in
theorem pad_any (V d : Nat) (w : World) (hd0 : 0 < d) (hd : d ≤ 19) (hV : V < 10 ^ d) : Calls Try.prog 9 #[.int .u64 (V : Nat), .int .i64 (d : Nat)] w fun e w' => e = .returned (.string (padS V d)) ∧ Below w.heap.size w w' := by
  have hVb : V < 10000000000000000000 := by
    have : 10 ^ d ≤ 10 ^ 19 := Nat.pow_le_pow_right (by omega) hd
    omega
  go_enter Try.func9, Try.ntmps9
  go_wp2
  go_loopw [0, 6] (fun n i wr => ∃ t O : Nat, t < d ∧ O + t = 20 ∧ i = .int .i64 (O : Nat) ∧ n = .int .u64 (V / 10 ^ t : Nat) ∧ wr.rowIs w.heap.size 36 20 (fun j => .int .u8 (cellV V t j : Nat)) ∧ Below w.heap.size w wr) (fun _ i _ => (intOf i).toNat)
  case atStart =>
    refine ⟨0, 20, by omega, rfl, rfl, by simp, ?_, (Below.refl _ _).alloc (Nat.le_refl _) _⟩
    have hr := World.rowIs_made w (.int .u8 0) 20 36
    rw [show madeCells #[Value.int .u8 0] 20 = #[Value.int .u8 0, Value.int .u8 0, Value.int .u8 0, Value.int .u8 0, Value.int .u8 0, Value.int .u8 0, Value.int .u8 0, Value.int .u8 0, Value.int .u8 0, Value.int .u8 0, Value.int .u8 0, Value.int .u8 0, Value.int .u8 0, Value.int .u8 0, Value.int .u8 0, Value.int .u8 0, Value.int .u8 0, Value.int .u8 0, Value.int .u8 0, Value.int .u8 0] by kernel_rfl] at hr
    refine hr.congr (fun j hj => ?_)
    have : cellV V 0 j = 0 := by unfold cellV; rw [if_neg (by omega)]
    rw [this]
    rfl
  case round =>
    obtain ⟨t, O, ht, hO, rfl, rfl, hrow, hb⟩ := hrel
    obtain ⟨O', hO'⟩ : ∃ O' : Nat, (O : Int) - 1 = (O' : Int) := ⟨O - 1, by omega⟩
    have hO20 : (O' : Int) < 20 := by omega
    have HS : Hid (∀ j, (if j = O' then (48 + V / 10 ^ t % 10) else cellV V t j) = cellV V (t + 1) j) := ⟨fun j => by rw [show O' = 19 - t by omega]; exact cellV_set V t j (by omega)⟩
    have HN1 : Hid (V / 10 ^ (t + 1) = V / 10 ^ t / 10) := ⟨by rw [Nat.pow_succ, Nat.div_div_eq_div_mul]⟩
    have hNV : V / 10 ^ t ≤ V := Nat.div_le_self _ _
    have hold := hrow.cell (i := O') (by omega)
    have hf := hrow.frozen O'
    generalize V / 10 ^ t = N at *
    generalize cellV V t O' = c0 at hold
    have m1 : Int.tmod (N : Int) 10 = ((N % 10 : Nat) : Int) := by rw [Int.tmod_eq_emod_of_nonneg (by omega)]; omega
    have m2 : IntKind.u64.wrap (48 + ((N % 10 : Nat) : Int)) = 48 + ((N % 10 : Nat) : Int) := IntWalk.u64_in _ (by omega)
    have m3 : IntKind.u8.wrap (48 + ((N % 10 : Nat) : Int)) = 48 + ((N % 10 : Nat) : Int) := IntWalk.u8_in _ (by omega)
    have m4 : Int.tdiv (N : Int) 10 = ((N / 10 : Nat) : Int) := by rw [Int.tdiv_eq_ediv_of_nonneg (by omega)]; omega
    have m5 : IntKind.u64.wrap ((N / 10 : Nat) : Int) = ((N / 10 : Nat) : Int) := IntWalk.u64_in _ (by omega)
    have m6 : IntKind.u64.wrap ((N % 10 : Nat) : Int) = ((N % 10 : Nat) : Int) := IntWalk.u64_in _ (by omega)
    have hrow2 := (hrow.set O' (.int .u8 (48 + ((N % 10 : Nat) : Int)))).congr (g := fun j => .int .u8 (cellV V (t + 1) j : Nat)) (fun j _ => by
      have := HS.out j
      by_cases e : j = O'
      · rw [if_pos e] at this ⊢; rw [← this]; rfl
      · rw [if_neg e] at this ⊢; rw [this])
    have hb2 : Below w.heap.size w (wr.setCell ⟨w.heap.size, O', none⟩ (.int .u8 (48 + ((N % 10 : Nat) : Int)))) := hb.setCell (Nat.le_refl _) _
    by_cases hz : N / 10 = 0
    · have hzb : (((N / 10 : Nat) : Int) == 0) = true := by simp; omega
      have HT : Hid (V < 10 ^ (t + 1)) := ⟨by
        have := HN1.out
        rw [hz] at this
        exact (Nat.div_eq_zero_iff_lt (Nat.pow_pos (by omega))).1 this⟩
      have hcv := run_convert_bytes_arg (P := Try.prog) (wr.setCell ⟨w.heap.size, O', none⟩ (.int .u8 (48 + ((N % 10 : Nat) : Int)))) 37 5 Try.underlying37 Try.underlying5 w.heap.size O' (t + 1) (t + 1) (digL V (t + 1)) (by simp [digL]) (fun i hi => by
        rw [hrow2.cell (i := O' + i) (by omega)]
        have e1 : cellV V (t + 1) (O' + i) = digAt V (t + 1) i := by
          unfold cellV digAt
          rw [if_pos (by omega), show 20 - 1 - (O' + i) = t + 1 - 1 - i by omega]
        rw [e1]
        simp [digL, hi]) 9 Try.underlying9
      generalize N / 10 = M at *
      generalize N % 10 = R at *
      clear hrow hb
      have hsl := fun W => slice36 W w.heap.size O' (t + 1) (by omega) (by omega)
      have HD : Hid (t + 1 ≤ d) := ⟨ht⟩
      go_wp2_with fail
      clear hold hf m1 m2 m3 m4 m5 m6 hcv hsl
      go_loop [7] (fun s => ∃ m : Nat, m ≤ d ∧ s = .string (padS V m) ∧ V < 10 ^ m) (fun s => d - szOf s)
      case atStart => exact ⟨t + 1, HD.out, rfl, HT.out⟩
      case round =>
        obtain ⟨m, hm, rfl, hVm⟩ := hrel
        have hsz := padS_size V m
        have HG : Hid ((⟨#[48]⟩ : ByteArray) ++ padS V m = padS V (m + 1)) := ⟨padS_grow V m hVm⟩
        have HP : Hid (V < 10 ^ (m + 1)) := ⟨Nat.lt_of_lt_of_le hVm (Nat.pow_le_pow_right (by omega) (by omega))⟩
        have HM : Hid (szOf (.string (padS V m)) = m ∧ szOf (.string (padS V (m + 1))) = m + 1) := ⟨⟨padS_size V m, padS_size V (m + 1)⟩⟩
        clear hVm
        by_cases hmd : m < d
        · have hmi : (m : Int) < (d : Int) := by omega
          go_wp2_with fail
          go_round
          case rel => exact ⟨m + 1, by omega, by rw [HG.out], HP.out⟩
          case measure =>
            show d - szOf (.string ((⟨#[48]⟩ : ByteArray) ++ padS V m)) < d - szOf (.string (padS V m))
            rw [HG.out, HM.out.1, HM.out.2]
            omega
        · obtain rfl : d = m := by omega
          go_wp2_with fail
          go_ret
          exact ⟨rfl, hb2⟩
    · have hzb : (((N / 10 : Nat) : Int) == 0) = false := by simp; omega
      have HR : Hid (t + 1 < d) := ⟨digit_room hV (by rw [HN1.out]; exact hz)⟩
      generalize N / 10 = M at *
      generalize N % 10 = R at *
      clear hrow hb
      go_wp2_with fail
      go_roundw
      case rel => exact ⟨t + 1, O', HR.out, by omega, by go_num, by rw [HN1.out], hrow2, hb2⟩
      case measure => simp [intOf]; omega
end Go.Proofs.Qxb6630199a
