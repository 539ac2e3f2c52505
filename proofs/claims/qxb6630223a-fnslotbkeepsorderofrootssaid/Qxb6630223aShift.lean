import Derived.Test.Qxb6630223aSlot
import Derived.DataShut
namespace Go.Proofs.Qxb6630223a
open Go.RowKit

set_option maxHeartbeats 1000000 in
theorem bytes5_ok (a0 a1 a2 a3 : Int) (a4 a5 : ByteArray) (a6 : Int) (w : World) (h : (a4.size : Int) + (a5.size : Int) ≤ 1048576) :
    Calls Try.prog 5 #[.int .i64 a0, .int .u64 a1, .int .u64 a2, .int .u8 a3, .string a4, .string a5, .int .u64 a6] w fun e w' => e = .returned (.bool true) ∧ w' = w := by
  go_enter Try.func5, Try.ntmps5
  go_wp2
  go_ret
  exact ⟨rfl, rfl⟩

set_option maxHeartbeats 1000000 in
theorem bytes5_no (a0 a1 a2 a3 : Int) (a4 a5 : ByteArray) (a6 : Int) (w : World) (w4 : a4.size ≤ maxLen) (w5 : a5.size ≤ maxLen) (h : ¬ (a4.size : Int) + (a5.size : Int) ≤ 1048576) :
    Calls Try.prog 5 #[.int .i64 a0, .int .u64 a1, .int .u64 a2, .int .u8 a3, .string a4, .string a5, .int .u64 a6] w fun e w' => e = .returned (.bool false) ∧ w' = w := by
  unfold maxLen at w4 w5
  by_cases h4 : (a4.size : Int) ≤ 1048576
  · by_cases h5 : (a5.size : Int) ≤ 1048576
    · go_enter Try.func5, Try.ntmps5
      go_wp2
      go_ret
      exact ⟨rfl, rfl⟩
    · go_enter Try.func5, Try.ntmps5
      go_wp2
      go_ret
      exact ⟨rfl, rfl⟩
  · go_enter Try.func5, Try.ntmps5
    go_wp2
    go_ret
    exact ⟨rfl, rfl⟩

set_option maxHeartbeats 1000000 in
theorem shift_ff (a0 : Int) (a1 : Int) (a2 : Int) (a3 : Int) (a4 : ByteArray) (a5 : ByteArray) (a6 : Int) (q1 q2 : Int) (w : World) (hb : (a4.size : Int) + (a5.size : Int) ≤ 1048576) (h10 : 0 ≤ a1) (h11 : a1 ≤ 4611686018427387904) (h20 : 0 ≤ a2) (h21 : a2 ≤ 4611686018427387904) (h60 : 0 ≤ a6) (h61 : a6 ≤ 65536)
    (hq1 : (a1 + a2 + 8191) / 8192 = q1) (hq2 : (a1 + a6 * 8192 + a2 + 8191) / 8192 = q2) (hfq1 : q1 * 8192 + a2 ≤ 4294967296) (hfq2 : q2 * 8192 + a2 ≤ 4294967296) :
    Calls Try.prog 3 #[.int .i64 a0, .int .u64 a1, .int .u64 a2, .int .u8 a3, .string a4, .string a5, .int .u64 a6] w fun e w' => e = .returned (.bool true) ∧ Grown w w' := by
  have m1 : IntKind.u64.wrap (a6 * 8192) = a6 * 8192 := IntWalk.u64_in _ (by omega)
  have m2 : IntKind.u64.wrap (a1 + a6 * 8192) = a1 + a6 * 8192 := IntWalk.u64_in _ (by omega)
  have m3 : IntKind.u64.wrap (q1 * 8192 + a6 * 8192) = q1 * 8192 + a6 * 8192 := IntWalk.u64_in _ (by omega)
  have m4 : q2 * 8192 = q1 * 8192 + a6 * 8192 := by omega
  have m5 : (q2 * 8192 == q1 * 8192 + a6 * 8192) = true := by simp [m4]
  have m6 : (q2 * 8192 != q1 * 8192 + a6 * 8192) = false := by simp [m4]
  clear m4
  go_enter Try.func3, Try.ntmps3
  go_wp2_with fail
  refine (bytes5_ok a0 a1 a2 a3 a4 a5 a6 w hb).mono ?_
  rintro e' w0 ⟨rfl, hw⟩
  obtain rfl : w = w0 := hw.symm
  go_wp2_with fail
  refine (slot_fit a0 a1 a2 a3 a4 a5 _ q1 (by omega) (by omega) (by omega) hq1 (by omega)).mono ?_
  rintro e' uq1a ⟨rfl, gq1a⟩
  go_wp2_with fail
  refine (beyond_nil _).mono ?_
  rintro e' uq1b ⟨rfl, gq1b⟩
  have hPq1 := ((At.here uq1a 3 (q1 * 8192) a2 131 ⟨#[117, 110, 107, 110, 111, 119, 110]⟩ ⟨#[]⟩ 26).grown gq1b).alloc (.cells #[.int .i64 0, .int .u64 0, .int .u64 0, .int .u8 0, .string ⟨#[]⟩, .string ⟨#[]⟩] 26)
  obtain ⟨_, cq10, cq11, cq12, cq13, cq14, cq15⟩ := hPq1
  go_wp2_with fail
  refine (chk_fit a1 a2 (q1 * 8192) _ (by omega) (by omega) (by omega) (by omega) (by omega) (by omega)).mono ?_
  rintro e' uq1c ⟨rfl, gq1c⟩
  have Guq1c : Grown w uq1c := grown_trans ((grown_trans ((grown_trans ((Grown.refl w).alloc _ _) gq1a).alloc _ _) gq1b).alloc _ _) gq1c
  clear gq1a gq1b gq1c cq10 cq11 cq12 cq13 cq14 cq15
  go_wp2_with fail
  refine (slot_fit a0 (a1 + a6 * 8192) a2 a3 a4 a5 _ q2 (by omega) (by omega) (by omega) hq2 (by omega)).mono ?_
  rintro e' uq2a ⟨rfl, gq2a⟩
  go_wp2_with fail
  refine (beyond_nil _).mono ?_
  rintro e' uq2b ⟨rfl, gq2b⟩
  have hPq2 := ((At.here uq2a 3 (q2 * 8192) a2 131 ⟨#[117, 110, 107, 110, 111, 119, 110]⟩ ⟨#[]⟩ 26).grown gq2b).alloc (.cells #[.int .i64 0, .int .u64 0, .int .u64 0, .int .u8 0, .string ⟨#[]⟩, .string ⟨#[]⟩] 26)
  obtain ⟨_, cq20, cq21, cq22, cq23, cq24, cq25⟩ := hPq2
  go_wp2_with fail
  refine (chk_fit (a1 + a6 * 8192) a2 (q2 * 8192) _ (by omega) (by omega) (by omega) (by omega) (by omega) (by omega)).mono ?_
  rintro e' uq2c ⟨rfl, gq2c⟩
  have Guq2c : Grown w uq2c := grown_trans ((grown_trans ((grown_trans (Guq1c.alloc _ _) gq2a).alloc _ _) gq2b).alloc _ _) gq2c
  clear gq2a gq2b gq2c cq20 cq21 cq22 cq23 cq24 cq25
  go_wp2_with fail
  go_ret
  exact ⟨rfl, Guq2c⟩

set_option maxHeartbeats 1000000 in
theorem shift_fo (a0 : Int) (a1 : Int) (a2 : Int) (a3 : Int) (a4 : ByteArray) (a5 : ByteArray) (a6 : Int) (q1 q2 : Int) (w : World) (hb : (a4.size : Int) + (a5.size : Int) ≤ 1048576) (h10 : 0 ≤ a1) (h11 : a1 ≤ 4611686018427387904) (h20 : 0 ≤ a2) (h21 : a2 ≤ 4611686018427387904) (h60 : 0 ≤ a6) (h61 : a6 ≤ 65536)
    (hq1 : (a1 + a2 + 8191) / 8192 = q1) (hq2 : (a1 + a6 * 8192 + a2 + 8191) / 8192 = q2) (hfq1 : q1 * 8192 + a2 ≤ 4294967296) (hfq2 : ¬ q2 * 8192 + a2 ≤ 4294967296) :
    Calls Try.prog 3 #[.int .i64 a0, .int .u64 a1, .int .u64 a2, .int .u8 a3, .string a4, .string a5, .int .u64 a6] w fun e w' => e = .returned (.bool true) ∧ Grown w w' := by
  have m1 : IntKind.u64.wrap (a6 * 8192) = a6 * 8192 := IntWalk.u64_in _ (by omega)
  have m2 : IntKind.u64.wrap (a1 + a6 * 8192) = a1 + a6 * 8192 := IntWalk.u64_in _ (by omega)
  have m3 : IntKind.u64.wrap (q1 * 8192 + a6 * 8192) = q1 * 8192 + a6 * 8192 := IntWalk.u64_in _ (by omega)
  have m4 : q2 * 8192 = q1 * 8192 + a6 * 8192 := by omega
  have m5 : (q2 * 8192 == q1 * 8192 + a6 * 8192) = true := by simp [m4]
  have m6 : (q2 * 8192 != q1 * 8192 + a6 * 8192) = false := by simp [m4]
  clear m4
  go_enter Try.func3, Try.ntmps3
  go_wp2_with fail
  refine (bytes5_ok a0 a1 a2 a3 a4 a5 a6 w hb).mono ?_
  rintro e' w0 ⟨rfl, hw⟩
  obtain rfl : w = w0 := hw.symm
  go_wp2_with fail
  refine (slot_fit a0 a1 a2 a3 a4 a5 _ q1 (by omega) (by omega) (by omega) hq1 (by omega)).mono ?_
  rintro e' uq1a ⟨rfl, gq1a⟩
  go_wp2_with fail
  refine (beyond_nil _).mono ?_
  rintro e' uq1b ⟨rfl, gq1b⟩
  have hPq1 := ((At.here uq1a 3 (q1 * 8192) a2 131 ⟨#[117, 110, 107, 110, 111, 119, 110]⟩ ⟨#[]⟩ 26).grown gq1b).alloc (.cells #[.int .i64 0, .int .u64 0, .int .u64 0, .int .u8 0, .string ⟨#[]⟩, .string ⟨#[]⟩] 26)
  obtain ⟨_, cq10, cq11, cq12, cq13, cq14, cq15⟩ := hPq1
  go_wp2_with fail
  refine (chk_fit a1 a2 (q1 * 8192) _ (by omega) (by omega) (by omega) (by omega) (by omega) (by omega)).mono ?_
  rintro e' uq1c ⟨rfl, gq1c⟩
  have Guq1c : Grown w uq1c := grown_trans ((grown_trans ((grown_trans ((Grown.refl w).alloc _ _) gq1a).alloc _ _) gq1b).alloc _ _) gq1c
  clear gq1a gq1b gq1c cq10 cq11 cq12 cq13 cq14 cq15
  go_wp2_with fail
  refine (slot_over a0 (a1 + a6 * 8192) a2 a3 a4 a5 _ q2 (by omega) (by omega) (by omega) (by omega) hq2 (by omega)).mono ?_
  rintro e' uq2a ⟨bq2, rfl, gq2a, hbq2⟩
  go_wp2_with fail
  refine (beyond_ptr _ bq2 _ _ _ _ _ _ (hbq2.alloc _)).mono ?_
  rintro e' uq2b ⟨rfl, gq2b⟩
  have hPq2 := ((At.here uq2a 0 0 0 0 ⟨#[]⟩ ⟨#[]⟩ 26).grown gq2b).alloc (.cells #[.int .i64 3, .int .u64 (q2 * 8192), .int .u64 a2, .int .u8 131, .string ⟨#[117, 110, 107, 110, 111, 119, 110]⟩, .string ⟨#[]⟩] 26)
  obtain ⟨_, cq20, cq21, cq22, cq23, cq24, cq25⟩ := hPq2
  go_wp2_with fail
  refine (chk_over (a1 + a6 * 8192) a2 (q2 * 8192) _ (by omega) (by omega) (by omega) (by omega) (by omega) (by omega) (by omega) (by omega)).mono ?_
  rintro e' uq2c ⟨rfl, gq2c⟩
  have Guq2c : Grown w uq2c := grown_trans ((grown_trans ((grown_trans (Guq1c.alloc _ _) gq2a).alloc _ _) gq2b).alloc _ _) gq2c
  clear gq2a gq2b gq2c cq20 cq21 cq22 cq23 cq24 cq25 hbq2
  go_wp2_with fail
  go_ret
  exact ⟨rfl, Guq2c⟩

set_option maxHeartbeats 1000000 in
theorem shift_oo (a0 : Int) (a1 : Int) (a2 : Int) (a3 : Int) (a4 : ByteArray) (a5 : ByteArray) (a6 : Int) (q1 q2 : Int) (w : World) (hb : (a4.size : Int) + (a5.size : Int) ≤ 1048576) (h10 : 0 ≤ a1) (h11 : a1 ≤ 4611686018427387904) (h20 : 0 ≤ a2) (h21 : a2 ≤ 4611686018427387904) (h60 : 0 ≤ a6) (h61 : a6 ≤ 65536)
    (hq1 : (a1 + a2 + 8191) / 8192 = q1) (hq2 : (a1 + a6 * 8192 + a2 + 8191) / 8192 = q2) (hfq1 : ¬ q1 * 8192 + a2 ≤ 4294967296) (hfq2 : ¬ q2 * 8192 + a2 ≤ 4294967296) :
    Calls Try.prog 3 #[.int .i64 a0, .int .u64 a1, .int .u64 a2, .int .u8 a3, .string a4, .string a5, .int .u64 a6] w fun e w' => e = .returned (.bool true) ∧ Grown w w' := by
  have m1 : IntKind.u64.wrap (a6 * 8192) = a6 * 8192 := IntWalk.u64_in _ (by omega)
  have m2 : IntKind.u64.wrap (a1 + a6 * 8192) = a1 + a6 * 8192 := IntWalk.u64_in _ (by omega)
  have m3 : IntKind.u64.wrap (q1 * 8192 + a6 * 8192) = q1 * 8192 + a6 * 8192 := IntWalk.u64_in _ (by omega)
  have m4 : q2 * 8192 = q1 * 8192 + a6 * 8192 := by omega
  have m5 : (q2 * 8192 == q1 * 8192 + a6 * 8192) = true := by simp [m4]
  have m6 : (q2 * 8192 != q1 * 8192 + a6 * 8192) = false := by simp [m4]
  clear m4
  go_enter Try.func3, Try.ntmps3
  go_wp2_with fail
  refine (bytes5_ok a0 a1 a2 a3 a4 a5 a6 w hb).mono ?_
  rintro e' w0 ⟨rfl, hw⟩
  obtain rfl : w = w0 := hw.symm
  go_wp2_with fail
  refine (slot_over a0 a1 a2 a3 a4 a5 _ q1 (by omega) (by omega) (by omega) (by omega) hq1 (by omega)).mono ?_
  rintro e' uq1a ⟨bq1, rfl, gq1a, hbq1⟩
  go_wp2_with fail
  refine (beyond_ptr _ bq1 _ _ _ _ _ _ (hbq1.alloc _)).mono ?_
  rintro e' uq1b ⟨rfl, gq1b⟩
  have hPq1 := ((At.here uq1a 0 0 0 0 ⟨#[]⟩ ⟨#[]⟩ 26).grown gq1b).alloc (.cells #[.int .i64 3, .int .u64 (q1 * 8192), .int .u64 a2, .int .u8 131, .string ⟨#[117, 110, 107, 110, 111, 119, 110]⟩, .string ⟨#[]⟩] 26)
  obtain ⟨_, cq10, cq11, cq12, cq13, cq14, cq15⟩ := hPq1
  go_wp2_with fail
  refine (chk_over a1 a2 (q1 * 8192) _ (by omega) (by omega) (by omega) (by omega) (by omega) (by omega) (by omega) (by omega)).mono ?_
  rintro e' uq1c ⟨rfl, gq1c⟩
  have Guq1c : Grown w uq1c := grown_trans ((grown_trans ((grown_trans ((Grown.refl w).alloc _ _) gq1a).alloc _ _) gq1b).alloc _ _) gq1c
  clear gq1a gq1b gq1c cq10 cq11 cq12 cq13 cq14 cq15 hbq1
  go_wp2_with fail
  refine (slot_over a0 (a1 + a6 * 8192) a2 a3 a4 a5 _ q2 (by omega) (by omega) (by omega) (by omega) hq2 (by omega)).mono ?_
  rintro e' uq2a ⟨bq2, rfl, gq2a, hbq2⟩
  go_wp2_with fail
  refine (beyond_ptr _ bq2 _ _ _ _ _ _ (hbq2.alloc _)).mono ?_
  rintro e' uq2b ⟨rfl, gq2b⟩
  have hPq2 := ((At.here uq2a 0 0 0 0 ⟨#[]⟩ ⟨#[]⟩ 26).grown gq2b).alloc (.cells #[.int .i64 3, .int .u64 (q2 * 8192), .int .u64 a2, .int .u8 131, .string ⟨#[117, 110, 107, 110, 111, 119, 110]⟩, .string ⟨#[]⟩] 26)
  obtain ⟨_, cq20, cq21, cq22, cq23, cq24, cq25⟩ := hPq2
  go_wp2_with fail
  refine (chk_over (a1 + a6 * 8192) a2 (q2 * 8192) _ (by omega) (by omega) (by omega) (by omega) (by omega) (by omega) (by omega) (by omega)).mono ?_
  rintro e' uq2c ⟨rfl, gq2c⟩
  have Guq2c : Grown w uq2c := grown_trans ((grown_trans ((grown_trans (Guq1c.alloc _ _) gq2a).alloc _ _) gq2b).alloc _ _) gq2c
  clear gq2a gq2b gq2c cq20 cq21 cq22 cq23 cq24 cq25 hbq2
  go_wp2_with fail
  go_ret
  exact ⟨rfl, Guq2c⟩

theorem u64_bounds {a : Int} (h : (Lit.int .u64 a).wf = true) : 0 ≤ a ∧ a ≤ 18446744073709551615 := by
  have := (Lit.wf_int_iff .u64 a).1 h
  exact ⟨this.1, this.2⟩

set_option maxHeartbeats 1000000 in
theorem shift_any (a0 : Int) (a1 : Int) (a2 : Int) (a3 : Int) (a4 : ByteArray) (a5 : ByteArray) (a6 : Int) (w1 : (Lit.int .u64 a1).wf = true) (w2 : (Lit.int .u64 a2).wf = true) (w4 : a4.size ≤ maxLen) (w5 : a5.size ≤ maxLen) (w6 : (Lit.int .u64 a6).wf = true) (w : World) :
    Calls Try.prog 3 #[.int .i64 a0, .int .u64 a1, .int .u64 a2, .int .u8 a3, .string a4, .string a5, .int .u64 a6] w fun e w' => e = .returned (.bool true) ∧ Grown w w' := by
  obtain ⟨l1, u1⟩ := u64_bounds w1
  obtain ⟨l2, u2⟩ := u64_bounds w2
  obtain ⟨l6, u6⟩ := u64_bounds w6
  by_cases hb : (a4.size : Int) + (a5.size : Int) ≤ 1048576
  · by_cases h : (a1 ≤ 4611686018427387904 ∧ a2 ≤ 4611686018427387904) ∧ a6 ≤ 65536
    · obtain ⟨⟨h1, h2⟩, h6⟩ := h
      obtain ⟨q1, hq1⟩ : ∃ q1, (a1 + a2 + 8191) / 8192 = q1 := ⟨_, rfl⟩
      obtain ⟨q2, hq2⟩ : ∃ q2, (a1 + a6 * 8192 + a2 + 8191) / 8192 = q2 := ⟨_, rfl⟩
      by_cases f1 : q1 * 8192 + a2 ≤ 4294967296
      · by_cases f2 : q2 * 8192 + a2 ≤ 4294967296
        · exact shift_ff a0 a1 a2 a3 a4 a5 a6 q1 q2 w hb l1 h1 l2 h2 l6 h6 hq1 hq2 f1 f2
        · exact shift_fo a0 a1 a2 a3 a4 a5 a6 q1 q2 w hb l1 h1 l2 h2 l6 h6 hq1 hq2 f1 f2
      · exact shift_oo a0 a1 a2 a3 a4 a5 a6 q1 q2 w hb l1 h1 l2 h2 l6 h6 hq1 hq2 f1 (by omega)
    · by_cases h1 : a1 ≤ 4611686018427387904
      · by_cases h2 : a2 ≤ 4611686018427387904
        · have h6 : ¬ a6 ≤ 65536 := fun h' => h ⟨⟨h1, h2⟩, h'⟩
          clear h
          go_enter Try.func3, Try.ntmps3
          go_wp2_with fail
          refine (bytes5_ok a0 a1 a2 a3 a4 a5 a6 w hb).mono ?_
          rintro e' w0 ⟨rfl, hw⟩
          obtain rfl : w = w0 := hw.symm
          go_wp2_with fail
          go_ret
          exact ⟨rfl, Grown.refl _⟩
        · clear h
          go_enter Try.func3, Try.ntmps3
          go_wp2_with fail
          refine (bytes5_ok a0 a1 a2 a3 a4 a5 a6 w hb).mono ?_
          rintro e' w0 ⟨rfl, hw⟩
          obtain rfl : w = w0 := hw.symm
          go_wp2_with fail
          go_ret
          exact ⟨rfl, Grown.refl _⟩
      · clear h
        go_enter Try.func3, Try.ntmps3
        go_wp2_with fail
        refine (bytes5_ok a0 a1 a2 a3 a4 a5 a6 w hb).mono ?_
        rintro e' w0 ⟨rfl, hw⟩
        obtain rfl : w = w0 := hw.symm
        go_wp2_with fail
        go_ret
        exact ⟨rfl, Grown.refl _⟩
  · go_enter Try.func3, Try.ntmps3
    go_wp2_with fail
    refine (bytes5_no a0 a1 a2 a3 a4 a5 a6 w w4 w5 (by omega)).mono ?_
    rintro e' w0 ⟨rfl, hw⟩
    obtain rfl : w = w0 := hw.symm
    go_wp2_with fail
    go_ret
    exact ⟨rfl, Grown.refl _⟩

end Go.Proofs.Qxb6630223a
