import Derived.Test.Qxb6630223aShift
namespace Go.Proofs.Qxb6630223a
open Go.RowKit

set_option maxHeartbeats 2000000 in
set_option maxRecDepth 100000 in
theorem bytes9_ok (a0 : Int) (a1 : Int) (a2 : Int) (a3 : ByteArray) (a4 : ByteArray) (a5 : Int) (a6 : Int) (a7 : Int) (a8 : ByteArray) (a9 : ByteArray) (a10 : Int) (w : World) (h : (a3.size : Int) + (a4.size : Int) + (a8.size : Int) + (a9.size : Int) ≤ 1048576) :
    Calls Try.prog 9 #[.int .i64 a0, .int .u64 a1, .int .u8 a2, .string a3, .string a4, .int .i64 a5, .int .u64 a6, .int .u8 a7, .string a8, .string a9, .int .u64 a10] w fun e w' => e = .returned (.bool true) ∧ w' = w := by
  go_enter Try.func9, Try.ntmps9
  go_wp2
  go_ret
  exact ⟨rfl, rfl⟩

set_option maxHeartbeats 2000000 in
set_option maxRecDepth 100000 in
theorem bytes9_no (a0 : Int) (a1 : Int) (a2 : Int) (a3 : ByteArray) (a4 : ByteArray) (a5 : Int) (a6 : Int) (a7 : Int) (a8 : ByteArray) (a9 : ByteArray) (a10 : Int) (w : World) (w3 : a3.size ≤ maxLen) (w4 : a4.size ≤ maxLen) (w8 : a8.size ≤ maxLen) (w9 : a9.size ≤ maxLen) (h : ¬ (a3.size : Int) + (a4.size : Int) + (a8.size : Int) + (a9.size : Int) ≤ 1048576) :
    Calls Try.prog 9 #[.int .i64 a0, .int .u64 a1, .int .u8 a2, .string a3, .string a4, .int .i64 a5, .int .u64 a6, .int .u8 a7, .string a8, .string a9, .int .u64 a10] w fun e w' => e = .returned (.bool false) ∧ w' = w := by
  unfold maxLen at w3 w4 w8 w9
  by_cases h3 : (a3.size : Int) ≤ 1048576
  · by_cases h4 : (a4.size : Int) ≤ 1048576
    · by_cases h34 : (a3.size : Int) + (a4.size : Int) ≤ 1048576
      · by_cases h8 : (a8.size : Int) ≤ 1048576
        · by_cases h348 : (a3.size : Int) + (a4.size : Int) + (a8.size : Int) ≤ 1048576
          · by_cases h9 : (a9.size : Int) ≤ 1048576
            · go_enter Try.func9, Try.ntmps9
              go_wp2
              go_ret
              exact ⟨rfl, rfl⟩
            · go_enter Try.func9, Try.ntmps9
              go_wp2
              go_ret
              exact ⟨rfl, rfl⟩
          · go_enter Try.func9, Try.ntmps9
            go_wp2
            go_ret
            exact ⟨rfl, rfl⟩
        · go_enter Try.func9, Try.ntmps9
          go_wp2
          go_ret
          exact ⟨rfl, rfl⟩
      · go_enter Try.func9, Try.ntmps9
        go_wp2
        go_ret
        exact ⟨rfl, rfl⟩
    · go_enter Try.func9, Try.ntmps9
      go_wp2
      go_ret
      exact ⟨rfl, rfl⟩
  · go_enter Try.func9, Try.ntmps9
    go_wp2
    go_ret
    exact ⟨rfl, rfl⟩

set_option maxHeartbeats 2000000 in
set_option maxRecDepth 100000 in
theorem order_ff (a0 : Int) (a1 : Int) (a2 : Int) (a3 : ByteArray) (a4 : ByteArray) (a5 : Int) (a6 : Int) (a7 : Int) (a8 : ByteArray) (a9 : ByteArray) (a10 : Int) (q1 q2 : Int) (w : World) (hb : (a3.size : Int) + (a4.size : Int) + (a8.size : Int) + (a9.size : Int) ≤ 1048576) (h10 : 0 ≤ a1) (h11 : a1 ≤ 4611686018427387904) (h20 : 0 ≤ a6) (h21 : a6 ≤ 4611686018427387904) (h60 : 0 ≤ a10) (h61 : a10 ≤ 4611686018427387904)
    (hq1 : (a1 + a10 + 8191) / 8192 = q1) (hq2 : (a6 + a10 + 8191) / 8192 = q2) (hfq1 : q1 * 8192 + a10 ≤ 4294967296) (hfq2 : q2 * 8192 + a10 ≤ 4294967296) :
    Calls Try.prog 4 #[.int .i64 a0, .int .u64 a1, .int .u8 a2, .string a3, .string a4, .int .i64 a5, .int .u64 a6, .int .u8 a7, .string a8, .string a9, .int .u64 a10] w fun e w' => e = .returned (.bool true) ∧ Grown w w' := by
  go_enter Try.func4, Try.ntmps4
  go_wp2_with fail
  refine (bytes9_ok a0 a1 a2 a3 a4 a5 a6 a7 a8 a9 a10 w hb).mono ?_
  rintro e' w0 ⟨rfl, hw⟩
  obtain rfl : w = w0 := hw.symm
  go_wp2_with fail
  refine (slot_fit a0 a1 a10 a2 a3 a4 _ q1 (by omega) (by omega) (by omega) hq1 (by omega)).mono ?_
  rintro e' uq1a ⟨rfl, gq1a⟩
  go_wp2_with fail
  refine (beyond_nil _).mono ?_
  rintro e' uq1b ⟨rfl, gq1b⟩
  have hPq1 := ((At.here uq1a 3 (q1 * 8192) a10 131 ⟨#[117, 110, 107, 110, 111, 119, 110]⟩ ⟨#[]⟩ 26).grown gq1b).alloc (.cells #[.int .i64 0, .int .u64 0, .int .u64 0, .int .u8 0, .string ⟨#[]⟩, .string ⟨#[]⟩] 26)
  obtain ⟨_, cq10, cq11, cq12, cq13, cq14, cq15⟩ := hPq1
  go_wp2_with fail
  refine (chk_fit a1 a10 (q1 * 8192) _ (by omega) (by omega) (by omega) (by omega) (by omega) (by omega)).mono ?_
  rintro e' uq1c ⟨rfl, gq1c⟩
  have Kq1 := fun (W : World) (h : Grown W _) => grown_trans ((grown_trans ((grown_trans h gq1a).alloc _ _) gq1b).alloc _ _) gq1c
  have Guq1c : Grown w uq1c := Kq1 w (((Grown.refl w).alloc _ _).alloc _ _)
  have hB := (At.here (w.alloc (.cells #[.int .i64 a0, .int .u64 a1, .int .u64 a10, .int .u8 a2, .string a3, .string a4] 26)) a5 a6 a10 a7 a8 a9 26).grown (Kq1 _ (Grown.refl _))
  simp only [World.size_alloc] at hB
  obtain ⟨_, d0, d1, d2, d3, d4, d5⟩ := hB
  clear Kq1 gq1a gq1b gq1c cq10 cq11 cq12 cq13 cq14 cq15
  go_wp2_with fail
  refine (slot_fit a5 a6 a10 a7 a8 a9 _ q2 (by omega) (by omega) (by omega) hq2 (by omega)).mono ?_
  rintro e' uq2a ⟨rfl, gq2a⟩
  go_wp2_with fail
  refine (beyond_nil _).mono ?_
  rintro e' uq2b ⟨rfl, gq2b⟩
  have hPq2 := ((At.here uq2a 3 (q2 * 8192) a10 131 ⟨#[117, 110, 107, 110, 111, 119, 110]⟩ ⟨#[]⟩ 26).grown gq2b).alloc (.cells #[.int .i64 0, .int .u64 0, .int .u64 0, .int .u8 0, .string ⟨#[]⟩, .string ⟨#[]⟩] 26)
  obtain ⟨_, cq20, cq21, cq22, cq23, cq24, cq25⟩ := hPq2
  go_wp2_with fail
  refine (chk_fit a6 a10 (q2 * 8192) _ (by omega) (by omega) (by omega) (by omega) (by omega) (by omega)).mono ?_
  rintro e' uq2c ⟨rfl, gq2c⟩
  have Kq2 := fun (W : World) (h : Grown W _) => grown_trans ((grown_trans ((grown_trans h gq2a).alloc _ _) gq2b).alloc _ _) gq2c
  have Guq2c : Grown w uq2c := Kq2 w Guq1c
  clear Kq2 gq2a gq2b gq2c cq20 cq21 cq22 cq23 cq24 cq25
  by_cases hs : a1 ≤ a6
  · have hqq : q1 * 8192 ≤ q2 * 8192 := by omega
    go_wp2_with fail
    go_ret
    exact ⟨rfl, Guq2c⟩
  · have hqq : q2 * 8192 ≤ q1 * 8192 := by omega
    go_wp2_with fail
    go_ret
    exact ⟨rfl, Guq2c⟩

set_option maxHeartbeats 2000000 in
set_option maxRecDepth 100000 in
theorem order_fo (a0 : Int) (a1 : Int) (a2 : Int) (a3 : ByteArray) (a4 : ByteArray) (a5 : Int) (a6 : Int) (a7 : Int) (a8 : ByteArray) (a9 : ByteArray) (a10 : Int) (q1 q2 : Int) (w : World) (hb : (a3.size : Int) + (a4.size : Int) + (a8.size : Int) + (a9.size : Int) ≤ 1048576) (h10 : 0 ≤ a1) (h11 : a1 ≤ 4611686018427387904) (h20 : 0 ≤ a6) (h21 : a6 ≤ 4611686018427387904) (h60 : 0 ≤ a10) (h61 : a10 ≤ 4611686018427387904)
    (hq1 : (a1 + a10 + 8191) / 8192 = q1) (hq2 : (a6 + a10 + 8191) / 8192 = q2) (hfq1 : q1 * 8192 + a10 ≤ 4294967296) (hfq2 : ¬ q2 * 8192 + a10 ≤ 4294967296) (hs : a1 ≤ a6) :
    Calls Try.prog 4 #[.int .i64 a0, .int .u64 a1, .int .u8 a2, .string a3, .string a4, .int .i64 a5, .int .u64 a6, .int .u8 a7, .string a8, .string a9, .int .u64 a10] w fun e w' => e = .returned (.bool true) ∧ Grown w w' := by
  go_enter Try.func4, Try.ntmps4
  go_wp2_with fail
  refine (bytes9_ok a0 a1 a2 a3 a4 a5 a6 a7 a8 a9 a10 w hb).mono ?_
  rintro e' w0 ⟨rfl, hw⟩
  obtain rfl : w = w0 := hw.symm
  go_wp2_with fail
  refine (slot_fit a0 a1 a10 a2 a3 a4 _ q1 (by omega) (by omega) (by omega) hq1 (by omega)).mono ?_
  rintro e' uq1a ⟨rfl, gq1a⟩
  go_wp2_with fail
  refine (beyond_nil _).mono ?_
  rintro e' uq1b ⟨rfl, gq1b⟩
  have hPq1 := ((At.here uq1a 3 (q1 * 8192) a10 131 ⟨#[117, 110, 107, 110, 111, 119, 110]⟩ ⟨#[]⟩ 26).grown gq1b).alloc (.cells #[.int .i64 0, .int .u64 0, .int .u64 0, .int .u8 0, .string ⟨#[]⟩, .string ⟨#[]⟩] 26)
  obtain ⟨_, cq10, cq11, cq12, cq13, cq14, cq15⟩ := hPq1
  go_wp2_with fail
  refine (chk_fit a1 a10 (q1 * 8192) _ (by omega) (by omega) (by omega) (by omega) (by omega) (by omega)).mono ?_
  rintro e' uq1c ⟨rfl, gq1c⟩
  have Kq1 := fun (W : World) (h : Grown W _) => grown_trans ((grown_trans ((grown_trans h gq1a).alloc _ _) gq1b).alloc _ _) gq1c
  have Guq1c : Grown w uq1c := Kq1 w (((Grown.refl w).alloc _ _).alloc _ _)
  have hB := (At.here (w.alloc (.cells #[.int .i64 a0, .int .u64 a1, .int .u64 a10, .int .u8 a2, .string a3, .string a4] 26)) a5 a6 a10 a7 a8 a9 26).grown (Kq1 _ (Grown.refl _))
  simp only [World.size_alloc] at hB
  obtain ⟨_, d0, d1, d2, d3, d4, d5⟩ := hB
  clear Kq1 gq1a gq1b gq1c cq10 cq11 cq12 cq13 cq14 cq15
  go_wp2_with fail
  refine (slot_over a5 a6 a10 a7 a8 a9 _ q2 (by omega) (by omega) (by omega) (by omega) hq2 (by omega)).mono ?_
  rintro e' uq2a ⟨bq2, rfl, gq2a, hbq2⟩
  go_wp2_with fail
  refine (beyond_ptr _ bq2 _ _ _ _ _ _ (hbq2.alloc _)).mono ?_
  rintro e' uq2b ⟨rfl, gq2b⟩
  have hPq2 := ((At.here uq2a 0 0 0 0 ⟨#[]⟩ ⟨#[]⟩ 26).grown gq2b).alloc (.cells #[.int .i64 3, .int .u64 (q2 * 8192), .int .u64 a10, .int .u8 131, .string ⟨#[117, 110, 107, 110, 111, 119, 110]⟩, .string ⟨#[]⟩] 26)
  obtain ⟨_, cq20, cq21, cq22, cq23, cq24, cq25⟩ := hPq2
  go_wp2_with fail
  refine (chk_over a6 a10 (q2 * 8192) _ (by omega) (by omega) (by omega) (by omega) (by omega) (by omega) (by omega) (by omega)).mono ?_
  rintro e' uq2c ⟨rfl, gq2c⟩
  have Kq2 := fun (W : World) (h : Grown W _) => grown_trans ((grown_trans ((grown_trans h gq2a).alloc _ _) gq2b).alloc _ _) gq2c
  have Guq2c : Grown w uq2c := Kq2 w Guq1c
  clear Kq2 gq2a gq2b gq2c cq20 cq21 cq22 cq23 cq24 cq25 hbq2
  have hqq : q1 * 8192 ≤ q2 * 8192 := by omega
  go_wp2_with fail
  go_ret
  exact ⟨rfl, Guq2c⟩

set_option maxHeartbeats 2000000 in
set_option maxRecDepth 100000 in
theorem order_of (a0 : Int) (a1 : Int) (a2 : Int) (a3 : ByteArray) (a4 : ByteArray) (a5 : Int) (a6 : Int) (a7 : Int) (a8 : ByteArray) (a9 : ByteArray) (a10 : Int) (q1 q2 : Int) (w : World) (hb : (a3.size : Int) + (a4.size : Int) + (a8.size : Int) + (a9.size : Int) ≤ 1048576) (h10 : 0 ≤ a1) (h11 : a1 ≤ 4611686018427387904) (h20 : 0 ≤ a6) (h21 : a6 ≤ 4611686018427387904) (h60 : 0 ≤ a10) (h61 : a10 ≤ 4611686018427387904)
    (hq1 : (a1 + a10 + 8191) / 8192 = q1) (hq2 : (a6 + a10 + 8191) / 8192 = q2) (hfq1 : ¬ q1 * 8192 + a10 ≤ 4294967296) (hfq2 : q2 * 8192 + a10 ≤ 4294967296) (hs : ¬ a1 ≤ a6) :
    Calls Try.prog 4 #[.int .i64 a0, .int .u64 a1, .int .u8 a2, .string a3, .string a4, .int .i64 a5, .int .u64 a6, .int .u8 a7, .string a8, .string a9, .int .u64 a10] w fun e w' => e = .returned (.bool true) ∧ Grown w w' := by
  go_enter Try.func4, Try.ntmps4
  go_wp2_with fail
  refine (bytes9_ok a0 a1 a2 a3 a4 a5 a6 a7 a8 a9 a10 w hb).mono ?_
  rintro e' w0 ⟨rfl, hw⟩
  obtain rfl : w = w0 := hw.symm
  go_wp2_with fail
  refine (slot_over a0 a1 a10 a2 a3 a4 _ q1 (by omega) (by omega) (by omega) (by omega) hq1 (by omega)).mono ?_
  rintro e' uq1a ⟨bq1, rfl, gq1a, hbq1⟩
  go_wp2_with fail
  refine (beyond_ptr _ bq1 _ _ _ _ _ _ (hbq1.alloc _)).mono ?_
  rintro e' uq1b ⟨rfl, gq1b⟩
  have hPq1 := ((At.here uq1a 0 0 0 0 ⟨#[]⟩ ⟨#[]⟩ 26).grown gq1b).alloc (.cells #[.int .i64 3, .int .u64 (q1 * 8192), .int .u64 a10, .int .u8 131, .string ⟨#[117, 110, 107, 110, 111, 119, 110]⟩, .string ⟨#[]⟩] 26)
  obtain ⟨_, cq10, cq11, cq12, cq13, cq14, cq15⟩ := hPq1
  go_wp2_with fail
  refine (chk_over a1 a10 (q1 * 8192) _ (by omega) (by omega) (by omega) (by omega) (by omega) (by omega) (by omega) (by omega)).mono ?_
  rintro e' uq1c ⟨rfl, gq1c⟩
  have Kq1 := fun (W : World) (h : Grown W _) => grown_trans ((grown_trans ((grown_trans h gq1a).alloc _ _) gq1b).alloc _ _) gq1c
  have Guq1c : Grown w uq1c := Kq1 w (((Grown.refl w).alloc _ _).alloc _ _)
  have hB := (At.here (w.alloc (.cells #[.int .i64 a0, .int .u64 a1, .int .u64 a10, .int .u8 a2, .string a3, .string a4] 26)) a5 a6 a10 a7 a8 a9 26).grown (Kq1 _ (Grown.refl _))
  simp only [World.size_alloc] at hB
  obtain ⟨_, d0, d1, d2, d3, d4, d5⟩ := hB
  clear Kq1 gq1a gq1b gq1c cq10 cq11 cq12 cq13 cq14 cq15 hbq1
  go_wp2_with fail
  refine (slot_fit a5 a6 a10 a7 a8 a9 _ q2 (by omega) (by omega) (by omega) hq2 (by omega)).mono ?_
  rintro e' uq2a ⟨rfl, gq2a⟩
  go_wp2_with fail
  refine (beyond_nil _).mono ?_
  rintro e' uq2b ⟨rfl, gq2b⟩
  have hPq2 := ((At.here uq2a 3 (q2 * 8192) a10 131 ⟨#[117, 110, 107, 110, 111, 119, 110]⟩ ⟨#[]⟩ 26).grown gq2b).alloc (.cells #[.int .i64 0, .int .u64 0, .int .u64 0, .int .u8 0, .string ⟨#[]⟩, .string ⟨#[]⟩] 26)
  obtain ⟨_, cq20, cq21, cq22, cq23, cq24, cq25⟩ := hPq2
  go_wp2_with fail
  refine (chk_fit a6 a10 (q2 * 8192) _ (by omega) (by omega) (by omega) (by omega) (by omega) (by omega)).mono ?_
  rintro e' uq2c ⟨rfl, gq2c⟩
  have Kq2 := fun (W : World) (h : Grown W _) => grown_trans ((grown_trans ((grown_trans h gq2a).alloc _ _) gq2b).alloc _ _) gq2c
  have Guq2c : Grown w uq2c := Kq2 w Guq1c
  clear Kq2 gq2a gq2b gq2c cq20 cq21 cq22 cq23 cq24 cq25
  have hqq : q2 * 8192 ≤ q1 * 8192 := by omega
  go_wp2_with fail
  go_ret
  exact ⟨rfl, Guq2c⟩

set_option maxHeartbeats 2000000 in
set_option maxRecDepth 100000 in
theorem order_oo (a0 : Int) (a1 : Int) (a2 : Int) (a3 : ByteArray) (a4 : ByteArray) (a5 : Int) (a6 : Int) (a7 : Int) (a8 : ByteArray) (a9 : ByteArray) (a10 : Int) (q1 q2 : Int) (w : World) (hb : (a3.size : Int) + (a4.size : Int) + (a8.size : Int) + (a9.size : Int) ≤ 1048576) (h10 : 0 ≤ a1) (h11 : a1 ≤ 4611686018427387904) (h20 : 0 ≤ a6) (h21 : a6 ≤ 4611686018427387904) (h60 : 0 ≤ a10) (h61 : a10 ≤ 4611686018427387904)
    (hq1 : (a1 + a10 + 8191) / 8192 = q1) (hq2 : (a6 + a10 + 8191) / 8192 = q2) (hfq1 : ¬ q1 * 8192 + a10 ≤ 4294967296) (hfq2 : ¬ q2 * 8192 + a10 ≤ 4294967296) :
    Calls Try.prog 4 #[.int .i64 a0, .int .u64 a1, .int .u8 a2, .string a3, .string a4, .int .i64 a5, .int .u64 a6, .int .u8 a7, .string a8, .string a9, .int .u64 a10] w fun e w' => e = .returned (.bool true) ∧ Grown w w' := by
  go_enter Try.func4, Try.ntmps4
  go_wp2_with fail
  refine (bytes9_ok a0 a1 a2 a3 a4 a5 a6 a7 a8 a9 a10 w hb).mono ?_
  rintro e' w0 ⟨rfl, hw⟩
  obtain rfl : w = w0 := hw.symm
  go_wp2_with fail
  refine (slot_over a0 a1 a10 a2 a3 a4 _ q1 (by omega) (by omega) (by omega) (by omega) hq1 (by omega)).mono ?_
  rintro e' uq1a ⟨bq1, rfl, gq1a, hbq1⟩
  go_wp2_with fail
  refine (beyond_ptr _ bq1 _ _ _ _ _ _ (hbq1.alloc _)).mono ?_
  rintro e' uq1b ⟨rfl, gq1b⟩
  have hPq1 := ((At.here uq1a 0 0 0 0 ⟨#[]⟩ ⟨#[]⟩ 26).grown gq1b).alloc (.cells #[.int .i64 3, .int .u64 (q1 * 8192), .int .u64 a10, .int .u8 131, .string ⟨#[117, 110, 107, 110, 111, 119, 110]⟩, .string ⟨#[]⟩] 26)
  obtain ⟨_, cq10, cq11, cq12, cq13, cq14, cq15⟩ := hPq1
  go_wp2_with fail
  refine (chk_over a1 a10 (q1 * 8192) _ (by omega) (by omega) (by omega) (by omega) (by omega) (by omega) (by omega) (by omega)).mono ?_
  rintro e' uq1c ⟨rfl, gq1c⟩
  have Kq1 := fun (W : World) (h : Grown W _) => grown_trans ((grown_trans ((grown_trans h gq1a).alloc _ _) gq1b).alloc _ _) gq1c
  have Guq1c : Grown w uq1c := Kq1 w (((Grown.refl w).alloc _ _).alloc _ _)
  have hB := (At.here (w.alloc (.cells #[.int .i64 a0, .int .u64 a1, .int .u64 a10, .int .u8 a2, .string a3, .string a4] 26)) a5 a6 a10 a7 a8 a9 26).grown (Kq1 _ (Grown.refl _))
  simp only [World.size_alloc] at hB
  obtain ⟨_, d0, d1, d2, d3, d4, d5⟩ := hB
  clear Kq1 gq1a gq1b gq1c cq10 cq11 cq12 cq13 cq14 cq15 hbq1
  go_wp2_with fail
  refine (slot_over a5 a6 a10 a7 a8 a9 _ q2 (by omega) (by omega) (by omega) (by omega) hq2 (by omega)).mono ?_
  rintro e' uq2a ⟨bq2, rfl, gq2a, hbq2⟩
  go_wp2_with fail
  refine (beyond_ptr _ bq2 _ _ _ _ _ _ (hbq2.alloc _)).mono ?_
  rintro e' uq2b ⟨rfl, gq2b⟩
  have hPq2 := ((At.here uq2a 0 0 0 0 ⟨#[]⟩ ⟨#[]⟩ 26).grown gq2b).alloc (.cells #[.int .i64 3, .int .u64 (q2 * 8192), .int .u64 a10, .int .u8 131, .string ⟨#[117, 110, 107, 110, 111, 119, 110]⟩, .string ⟨#[]⟩] 26)
  obtain ⟨_, cq20, cq21, cq22, cq23, cq24, cq25⟩ := hPq2
  go_wp2_with fail
  refine (chk_over a6 a10 (q2 * 8192) _ (by omega) (by omega) (by omega) (by omega) (by omega) (by omega) (by omega) (by omega)).mono ?_
  rintro e' uq2c ⟨rfl, gq2c⟩
  have Kq2 := fun (W : World) (h : Grown W _) => grown_trans ((grown_trans ((grown_trans h gq2a).alloc _ _) gq2b).alloc _ _) gq2c
  have Guq2c : Grown w uq2c := Kq2 w Guq1c
  clear Kq2 gq2a gq2b gq2c cq20 cq21 cq22 cq23 cq24 cq25 hbq2
  by_cases hs : a1 ≤ a6
  · have hqq : q1 * 8192 ≤ q2 * 8192 := by omega
    go_wp2_with fail
    go_ret
    exact ⟨rfl, Guq2c⟩
  · have hqq : q2 * 8192 ≤ q1 * 8192 := by omega
    go_wp2_with fail
    go_ret
    exact ⟨rfl, Guq2c⟩

set_option maxHeartbeats 2000000 in
set_option maxRecDepth 100000 in
theorem order_any (a0 : Int) (a1 : Int) (a2 : Int) (a3 : ByteArray) (a4 : ByteArray) (a5 : Int) (a6 : Int) (a7 : Int) (a8 : ByteArray) (a9 : ByteArray) (a10 : Int) (w1 : (Lit.int .u64 a1).wf = true) (w3 : a3.size ≤ maxLen) (w4 : a4.size ≤ maxLen) (w6 : (Lit.int .u64 a6).wf = true) (w8 : a8.size ≤ maxLen) (w9 : a9.size ≤ maxLen) (w10 : (Lit.int .u64 a10).wf = true) (w : World) :
    Calls Try.prog 4 #[.int .i64 a0, .int .u64 a1, .int .u8 a2, .string a3, .string a4, .int .i64 a5, .int .u64 a6, .int .u8 a7, .string a8, .string a9, .int .u64 a10] w fun e w' => e = .returned (.bool true) ∧ Grown w w' := by
  obtain ⟨l1, u1⟩ := u64_bounds w1
  obtain ⟨l6, u6⟩ := u64_bounds w6
  obtain ⟨l10, u10⟩ := u64_bounds w10
  by_cases hb : (a3.size : Int) + (a4.size : Int) + (a8.size : Int) + (a9.size : Int) ≤ 1048576
  · by_cases h1 : a1 ≤ 4611686018427387904
    · by_cases h6 : a6 ≤ 4611686018427387904
      · by_cases h10 : a10 ≤ 4611686018427387904
        · obtain ⟨q1, hq1⟩ : ∃ q1, (a1 + a10 + 8191) / 8192 = q1 := ⟨_, rfl⟩
          obtain ⟨q2, hq2⟩ : ∃ q2, (a6 + a10 + 8191) / 8192 = q2 := ⟨_, rfl⟩
          by_cases f1 : q1 * 8192 + a10 ≤ 4294967296
          · by_cases f2 : q2 * 8192 + a10 ≤ 4294967296
            · exact order_ff a0 a1 a2 a3 a4 a5 a6 a7 a8 a9 a10 q1 q2 w hb l1 h1 l6 h6 l10 h10 hq1 hq2 f1 f2
            · exact order_fo a0 a1 a2 a3 a4 a5 a6 a7 a8 a9 a10 q1 q2 w hb l1 h1 l6 h6 l10 h10 hq1 hq2 f1 f2 (by omega)
          · by_cases f2 : q2 * 8192 + a10 ≤ 4294967296
            · exact order_of a0 a1 a2 a3 a4 a5 a6 a7 a8 a9 a10 q1 q2 w hb l1 h1 l6 h6 l10 h10 hq1 hq2 f1 f2 (by omega)
            · exact order_oo a0 a1 a2 a3 a4 a5 a6 a7 a8 a9 a10 q1 q2 w hb l1 h1 l6 h6 l10 h10 hq1 hq2 f1 f2
        · go_enter Try.func4, Try.ntmps4
          go_wp2_with fail
          refine (bytes9_ok a0 a1 a2 a3 a4 a5 a6 a7 a8 a9 a10 w (by omega)).mono ?_
          rintro e' w0 ⟨rfl, hw⟩
          obtain rfl : w = w0 := hw.symm
          go_wp2_with fail
          go_ret
          exact ⟨rfl, Grown.refl _⟩
      · go_enter Try.func4, Try.ntmps4
        go_wp2_with fail
        refine (bytes9_ok a0 a1 a2 a3 a4 a5 a6 a7 a8 a9 a10 w (by omega)).mono ?_
        rintro e' w0 ⟨rfl, hw⟩
        obtain rfl : w = w0 := hw.symm
        go_wp2_with fail
        go_ret
        exact ⟨rfl, Grown.refl _⟩
    · go_enter Try.func4, Try.ntmps4
      go_wp2_with fail
      refine (bytes9_ok a0 a1 a2 a3 a4 a5 a6 a7 a8 a9 a10 w (by omega)).mono ?_
      rintro e' w0 ⟨rfl, hw⟩
      obtain rfl : w = w0 := hw.symm
      go_wp2_with fail
      go_ret
      exact ⟨rfl, Grown.refl _⟩
  · go_enter Try.func4, Try.ntmps4
    go_wp2_with fail
    refine (bytes9_no a0 a1 a2 a3 a4 a5 a6 a7 a8 a9 a10 w w3 w4 w8 w9 (by omega)).mono ?_
    rintro e' w0 ⟨rfl, hw⟩
    obtain rfl : w = w0 := hw.symm
    go_wp2_with fail
    go_ret
    exact ⟨rfl, Grown.refl _⟩

end Go.Proofs.Qxb6630223a
