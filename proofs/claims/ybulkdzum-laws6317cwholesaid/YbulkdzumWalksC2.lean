/-
  math/bits.Div64 whole, Mul64, Add64, Sub64 over Int, and mulAddDiv at aHi = 0.
-/
import Derived.Test.YbulkdzumWalksC1
namespace Go.Proofs.Ybulkdzum
open Go.RowKit PlainC

theorem div_zero (lo y : Int) (w : World) (h1 : 0 < y) (h2 : y < 18446744073709551616) (h3 : 0 ≤ lo) (h4 : lo < 18446744073709551616) :
    Calls Yba.prog 29 #[.int .u64 0, .int .u64 lo, .int .u64 y] w fun e w' => e = .returned (.tuple #[.int .u64 (lo / y), .int .u64 (lo % y)]) ∧ ∃ n, w' = w.drewN n := by
  go_enter Yba.func29, Yba.ntmps29
  go_wp2
  go_region
  go_wp2
  go_ret2
  exact ⟨rfl, 1, rfl⟩

/-- math/bits.Div64 wherever it does not panic. -/
theorem div_all (hi lo y : Int) (w : World) (h0 : 0 ≤ hi) (h1 : hi < y) (h2 : y < 18446744073709551616) (h3 : 0 ≤ lo) (h4 : lo < 18446744073709551616) :
    Calls Yba.prog 29 #[.int .u64 hi, .int .u64 lo, .int .u64 y] w fun e w' => e = .returned (.tuple #[.int .u64 ((hi * 18446744073709551616 + lo) / y), .int .u64 ((hi * 18446744073709551616 + lo) % y)]) ∧ ∃ n, w' = w.drewN n := by
  by_cases h : hi = 0
  · subst h
    refine (div_zero lo y w h1 h2 h3 h4).mono ?_
    rintro e w' ⟨rfl, hw⟩
    rw [Int.zero_mul, Int.zero_add]
    exact ⟨rfl, hw⟩
  · refine (div_any hi lo y w (by omega) h1 h2 h3 h4).mono ?_
    rintro e w' ⟨rfl, rfl⟩
    exact ⟨rfl, 0, rfl⟩

theorem mul_all (x y : Int) (w : World) (x0 : 0 ≤ x) (x1 : x < 18446744073709551616) (y0 : 0 ≤ y) (y1 : y < 18446744073709551616) :
    Calls Yba.prog 21 #[.int .u64 x, .int .u64 y] w fun e w' => e = .returned (.tuple #[.int .u64 (x * y / 18446744073709551616), .int .u64 (x * y % 18446744073709551616)]) ∧ w' = w := by
  obtain ⟨x, rfl⟩ := Int.eq_ofNat_of_zero_le x0
  obtain ⟨y, rfl⟩ := Int.eq_ofNat_of_zero_le y0
  refine (Yba.bits_Mul64 x y (by omega) (by omega) w).mono ?_
  rintro e w' ⟨rfl, rfl⟩
  refine ⟨?_, rfl⟩
  rw [Int.natCast_ediv, Int.natCast_emod, Int.natCast_mul]
  rfl

theorem add_at (x y s c : Int) (x0 : 0 ≤ x) (y0 : 0 ≤ y) (h : x + y = c * 18446744073709551616 + s) (s0 : 0 ≤ s) (s1 : s < 18446744073709551616) (w : World) :
    (callFunc 28 #[.int .u64 x, .int .u64 y, .int .u64 0]).run Yba.prog w = .ok (.value (.tuple #[.int .u64 s, .int .u64 c])) w := by
  obtain ⟨x, rfl⟩ := Int.eq_ofNat_of_zero_le x0
  obtain ⟨y, rfl⟩ := Int.eq_ofNat_of_zero_le y0
  have e1 : (((x + y + 0) % 18446744073709551616 : Nat) : Int) = s := by omega
  have e2 : (((x + y + 0) / 18446744073709551616 : Nat) : Int) = c := by omega
  rw [← e1, ← e2]
  exact Any7.bits_Add64 Yba.lays25 x y 0 (by omega) w

theorem sub_at (x y s c : Int) (x0 : 0 ≤ x) (y0 : 0 ≤ y) (y1 : y < 18446744073709551616) (h : x - y = s - c * 18446744073709551616) (s0 : 0 ≤ s) (s1 : s < 18446744073709551616) (x1 : x < 18446744073709551616) (w : World) :
    (callFunc 22 #[.int .u64 x, .int .u64 y, .int .u64 0]).run Yba.prog w = .ok (.value (.tuple #[.int .u64 s, .int .u64 c])) w := by
  obtain ⟨x, rfl⟩ := Int.eq_ofNat_of_zero_le x0
  obtain ⟨y, rfl⟩ := Int.eq_ofNat_of_zero_le y0
  have e1 : (((x + 18446744073709551616 - y - 0) % 18446744073709551616 : Nat) : Int) = s := by omega
  have e2 : ((if x < y + 0 then 1 else 0 : Nat) : Int) = c := by split <;> omega
  rw [← e1, ← e2]
  exact Any7.bits_Sub64 Yba.lays26 x y 0 (by omega) w

/-- The words that mulAddDiv comes to. -/
theorem mad_words (a b k : Int) (a0 : 0 ≤ a) (a1 : a < 9223372036854775808) (b0 : 0 ≤ b) (b1 : b < 9223372036854775808) (k0 : 0 ≤ k) (k1 : k < 9223372036854775808) :
    ∃ M mh ml cy lo hi : Int, a * b = M ∧ M / 18446744073709551616 = mh ∧ M % 18446744073709551616 = ml ∧ mh + cy = hi ∧ ml + k = cy * 18446744073709551616 + lo ∧
      0 ≤ M ∧ 0 ≤ mh ∧ mh < 4611686018427387904 ∧ 0 ≤ ml ∧ ml < 18446744073709551616 ∧ 0 ≤ cy ∧ cy ≤ 1 ∧ 0 ≤ lo ∧ lo < 18446744073709551616 ∧ 0 ≤ hi ∧ hi < 9223372036854775808 ∧ a * b + k = hi * 18446744073709551616 + lo := by
  have M0 : 0 ≤ a * b := Int.mul_nonneg a0 b0
  have M1 : a * b < 9223372036854775808 * 9223372036854775808 := Int.mul_lt_mul' (by omega) b1 (by omega) (by omega)
  refine ⟨_, _, _, (a * b % 18446744073709551616 + k) / 18446744073709551616, (a * b % 18446744073709551616 + k) % 18446744073709551616, _, rfl, rfl, rfl, rfl, ?_⟩
  omega

theorem div_lt_of (N hi lo c : Int) (h : N = hi * 18446744073709551616 + lo) (l0 : 0 ≤ lo) (c0 : 0 < c) (hd : N / c < 9223372036854775808) : hi < c := by
  have h1 : N < 9223372036854775808 * c := (Int.ediv_lt_iff_lt_mul c0).1 hd
  omega

set_option maxHeartbeats 1000000 in
theorem mad_no (a b k c : Int) (w : World) (a0 : 0 ≤ a) (a1 : a < 9223372036854775808) (b0 : 0 ≤ b) (b1 : b < 9223372036854775808) (k0 : 0 ≤ k) (k1 : k < 9223372036854775808) (c0 : 0 < c) (c1 : c < 9223372036854775808) (hd : 9223372036854775808 ≤ (a * b + k) / c) :
    Calls Yba.prog 20 #[.int .u64 0, .int .u64 a, .int .u64 b, .int .u64 k, .int .u64 c] w fun e w' => e = .returned (.tuple #[.int .i64 0, .int .i64 0, .bool false]) ∧ ∃ n, w' = w.drewN n := by
  obtain ⟨M, mh, ml, cy, lo, hi, e1, e2, e3, e4, e5, f1, f2, f3, f4, f5, f6, f7, f8, f9, f10, f11, hN⟩ := mad_words a b k a0 a1 b0 b1 k0 k1
  have ha := fun w => add_at ml k lo cy f4 k0 e5 f8 f9 w
  have hb := fun w => add_at hi 0 hi 0 f10 (by omega) (by omega) f10 (by omega) w
  rw [hN] at hd
  clear hN e5
  have HD : Hid (9223372036854775808 ≤ (hi * 18446744073709551616 + lo) / c) := hd
  clear hd
  by_cases hc : c ≤ hi
  · go_enter Yba.func20, Yba.ntmps20
    go_wp2_with (first | (go_at_call 21; refine (mul_all _ _ _ (by omega) (by omega) (by omega) (by omega)).mono ?_; rintro e w' ⟨rfl, rfl⟩) | (go_at_call 29; refine (div_all _ _ _ _ (by omega) (by omega) (by omega) (by omega) (by omega)).mono ?_; rintro e w' ⟨rfl, nq, rfl⟩))
    go_ret3
    exact ⟨rfl, 0, rfl⟩
  · have hd := HD.out
    obtain ⟨Q, hQ⟩ : ∃ Q, (hi * 18446744073709551616 + lo) / c = Q := ⟨_, rfl⟩
    obtain ⟨R, hR⟩ : ∃ R, (hi * 18446744073709551616 + lo) % c = R := ⟨_, rfl⟩
    rw [hQ] at hd
    go_enter Yba.func20, Yba.ntmps20
    go_wp2_with (first | (go_at_call 21; refine (mul_all _ _ _ (by omega) (by omega) (by omega) (by omega)).mono ?_; rintro e w' ⟨rfl, rfl⟩) | (go_at_call 29; refine (div_all _ _ _ _ (by omega) (by omega) (by omega) (by omega) (by omega)).mono ?_; rintro e w' ⟨rfl, nq, rfl⟩))
    go_ret3
    exact ⟨rfl, nq, rfl⟩

set_option maxHeartbeats 1000000 in
theorem mad_yes (a b k c : Int) (w : World) (a0 : 0 ≤ a) (a1 : a < 9223372036854775808) (b0 : 0 ≤ b) (b1 : b < 9223372036854775808) (k0 : 0 ≤ k) (k1 : k < 9223372036854775808) (c0 : 0 < c) (c1 : c < 9223372036854775808) (hd : (a * b + k) / c < 9223372036854775808) :
    Calls Yba.prog 20 #[.int .u64 0, .int .u64 a, .int .u64 b, .int .u64 k, .int .u64 c] w fun e w' => e = .returned (.tuple #[.int .i64 ((a * b + k) / c), .int .i64 ((a * b + k) % c), .bool true]) ∧ ∃ n, w' = w.drewN n := by
  obtain ⟨M, mh, ml, cy, lo, hi, e1, e2, e3, e4, e5, f1, f2, f3, f4, f5, f6, f7, f8, f9, f10, f11, hN⟩ := mad_words a b k a0 a1 b0 b1 k0 k1
  have ha := fun w => add_at ml k lo cy f4 k0 e5 f8 f9 w
  have hb := fun w => add_at hi 0 hi 0 f10 (by omega) (by omega) f10 (by omega) w
  rw [hN] at hd
  have hhc := div_lt_of _ hi lo c hN f8 c0 (by rw [hN]; exact hd)
  have hQ' : (a * b + k) / c = (hi * 18446744073709551616 + lo) / c := by rw [hN]
  have hR' : (a * b + k) % c = (hi * 18446744073709551616 + lo) % c := by rw [hN]
  clear hN e5
  have q0 : 0 ≤ (hi * 18446744073709551616 + lo) / c := Int.ediv_nonneg (by omega) (by omega)
  have r0 : 0 ≤ (hi * 18446744073709551616 + lo) % c := Int.emod_nonneg _ (by omega)
  have r1 : (hi * 18446744073709551616 + lo) % c < c := Int.emod_lt_of_pos _ c0
  obtain ⟨Q, hQ⟩ : ∃ Q, (hi * 18446744073709551616 + lo) / c = Q := ⟨_, rfl⟩
  obtain ⟨R, hR⟩ : ∃ R, (hi * 18446744073709551616 + lo) % c = R := ⟨_, rfl⟩
  rw [hQ] at hd q0
  rw [hR] at r0 r1
  rw [hQ', hR', hQ, hR]
  clear hQ' hR'
  go_enter Yba.func20, Yba.ntmps20
  go_wp2_with (first | (go_at_call 21; refine (mul_all _ _ _ (by omega) (by omega) (by omega) (by omega)).mono ?_; rintro e w' ⟨rfl, rfl⟩) | (go_at_call 29; refine (div_all _ _ _ _ (by omega) (by omega) (by omega) (by omega) (by omega)).mono ?_; rintro e w' ⟨rfl, nq, rfl⟩))
  go_ret3
  exact ⟨rfl, nq, rfl⟩

end Go.Proofs.Ybulkdzum
