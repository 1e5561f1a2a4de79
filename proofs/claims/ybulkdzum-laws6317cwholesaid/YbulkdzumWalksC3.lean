/-
  spanFor, walked; the plain mathematics of the division bit by bit.
-/
import Derived.Test.YbulkdzumWalksC2
namespace Go.Proofs.Ybulkdzum
open Go.RowKit PlainC

/-- (n * period - carry) / events rounded up, or the longest Duration. -/
def span (N e : Int) : Int := if 9223372036854775808 ≤ N / e then 9223372036854775807 else if N % e = 0 then N / e else if N / e = 9223372036854775807 then 9223372036854775807 else N / e + 1

theorem span_huge {N e : Int} (h : 9223372036854775808 ≤ N / e) : span N e = 9223372036854775807 := by unfold span; rw [if_pos h]
theorem span_even {N e : Int} (h : N / e < 9223372036854775808) (h' : N % e = 0) : span N e = N / e := by unfold span; rw [if_neg (by omega), if_pos h']
theorem span_last {N e : Int} (h : N / e = 9223372036854775807) (h' : ¬ N % e = 0) : span N e = 9223372036854775807 := by unfold span; rw [if_neg (by omega), if_neg h', if_pos h]
theorem span_up {N e : Int} (h : N / e < 9223372036854775807) (h' : ¬ N % e = 0) : span N e = N / e + 1 := by unfold span; rw [if_neg (by omega), if_neg h', if_neg (by omega)]

theorem ret_int {k : IntKind} {a b : Int} (h : a = b) : Ending.returned (.int k a) = .returned (.int k b) := by rw [h]

theorem grown_drewN {W w' : World} (h : Grown W w') (n : Nat) : Grown W (w'.drewN n) := h

set_option maxHeartbeats 1000000 in
theorem span_any (e p n c : Int) (w : World) (e0 : 0 < e) (e1 : e < 9223372036854775808) (p0 : 0 < p) (p1 : p < 9223372036854775808) (n0 : 0 < n) (n1 : n < 9223372036854775808) (c0 : 0 ≤ c) (c1 : c < p) :
    Calls Yba.prog 11 #[.agg #[.int .i64 e, .int .i64 p], .int .i64 n, .int .i64 c] w fun r w' => r = .returned (.int .i64 (span (n * p - c) e)) ∧ ∃ nq, w' = (w.alloc (.cells #[.int .i64 e, .int .i64 p] 46)).drewN nq := by
  have hN : (n - 1) * p + (p - c) = n * p - c := by rw [Int.sub_mul]; omega
  by_cases h : 9223372036854775808 ≤ ((n - 1) * p + (p - c)) / e
  · rw [span_huge (by rw [← hN]; exact h)]
    have HH : Hid (9223372036854775808 ≤ ((n - 1) * p + (p - c)) / e) := h
    clear h hN
    go_enter Yba.func11, Yba.ntmps11
    go_wp2_with (go_at_call 20; refine (mad_no _ _ _ _ _ (by omega) (by omega) (by omega) (by omega) (by omega) (by omega) (by omega) (by omega) HH.out).mono ?_; rintro e w' ⟨rfl, nq, rfl⟩)
    go_ret
    exact ⟨rfl, nq, rfl⟩
  · have hq : ((n - 1) * p + (p - c)) / e < 9223372036854775808 := by omega
    have HH : Hid (((n - 1) * p + (p - c)) / e < 9223372036854775808) := hq
    have q0 : 0 ≤ ((n - 1) * p + (p - c)) / e := Int.ediv_nonneg (by have := Int.mul_nonneg (show 0 ≤ n - 1 by omega) (show 0 ≤ p by omega); omega) (by omega)
    have r0 : 0 ≤ ((n - 1) * p + (p - c)) % e := Int.emod_nonneg _ (by omega)
    have r1 : ((n - 1) * p + (p - c)) % e < e := Int.emod_lt_of_pos _ e0
    clear h
    rw [← hN]
    obtain ⟨Q, hQ⟩ : ∃ Q, ((n - 1) * p + (p - c)) / e = Q := ⟨_, rfl⟩
    obtain ⟨R, hR⟩ : ∃ R, ((n - 1) * p + (p - c)) % e = R := ⟨_, rfl⟩
    have hs1 := @span_even ((n - 1) * p + (p - c)) e
    have hs2 := @span_last ((n - 1) * p + (p - c)) e
    have hs3 := @span_up ((n - 1) * p + (p - c)) e
    rw [hQ] at q0 hq hs1 hs2 hs3
    rw [hR] at r0 r1 hs1 hs2 hs3
    clear hN
    have HQ : Hid (((n - 1) * p + (p - c)) / e = Q) := hQ
    have HR : Hid (((n - 1) * p + (p - c)) % e = R) := hR
    by_cases hz : R = 0
    · rw [hs1 hq hz]
      have hz' : (R != 0) = false := by simp [hz]
      clear hs1 hs2 hs3 hz
      go_enter Yba.func11, Yba.ntmps11
      go_wp2_with (go_at_call 20; refine (mad_yes _ _ _ _ _ (by omega) (by omega) (by omega) (by omega) (by omega) (by omega) (by omega) (by omega) HH.out).mono ?_; rw [HQ.out, HR.out]; rintro e w' ⟨rfl, nq, rfl⟩)
      all_goals (go_ret; exact ⟨ret_int (by omega), nq, rfl⟩)
    · have hz' : (R != 0) = true := by simp [hz]
      by_cases hm : Q = 9223372036854775807
      · rw [hs2 hm hz]
        have hm' : (Q == 9223372036854775807) = true := by simp [hm]
        clear hs1 hs2 hs3 hz hm
        go_enter Yba.func11, Yba.ntmps11
        go_wp2_with (go_at_call 20; refine (mad_yes _ _ _ _ _ (by omega) (by omega) (by omega) (by omega) (by omega) (by omega) (by omega) (by omega) HH.out).mono ?_; rw [HQ.out, HR.out]; rintro e w' ⟨rfl, nq, rfl⟩)
        go_ret
        exact ⟨rfl, nq, rfl⟩
      · rw [hs3 (by omega) hz]
        have hm' : (Q == 9223372036854775807) = false := by simp [hm]
        have hm2 : Q < 9223372036854775807 := by omega
        clear hs1 hs2 hs3 hz hm
        go_enter Yba.func11, Yba.ntmps11
        go_wp2_with (go_at_call 20; refine (mad_yes _ _ _ _ _ (by omega) (by omega) (by omega) (by omega) (by omega) (by omega) (by omega) (by omega) HH.out).mono ?_; rw [HQ.out, HR.out]; rintro e w' ⟨rfl, nq, rfl⟩)
        go_ret
        exact ⟨rfl, nq, rfl⟩

/-! ### The division bit by bit -/

theorem and_one (x : Int) (h0 : 0 ≤ x) (h1 : x < 18446744073709551616) : bits .and .u64 x 1 = x % 2 := by
  obtain ⟨x, rfl⟩ := Int.eq_ofNat_of_zero_le h0
  have := bits_and_u64_nat x 1 (by omega) (by omega)
  rw [show ((1 : Nat) : Int) = 1 from rfl] at this
  rw [this, Nat.and_one_is_mod]
  omega

theorem or_bit (x b : Int) (h0 : 0 ≤ x) (h1 : x * 2 < 18446744073709551616) (b0 : 0 ≤ b) (b1 : b < 2) : bits .or .u64 (x * 2) b = x * 2 + b := by
  have := or_shift x b 1 (by omega) h0 (by omega) b0 (by omega)
  simpa using this

theorem half (N : Int) (k : Nat) (h : 1 ≤ k) : N / 2 ^ (k - 1) = 2 * (N / 2 ^ k) + N / 2 ^ (k - 1) % 2 := by
  have e : (2 : Int) ^ k = 2 ^ (k - 1) * 2 := by rw [← Int.pow_succ]; congr 1; omega
  rw [e, ← Int.ediv_ediv_of_nonneg (Int.le_of_lt (two_pow_pos _))]
  omega

theorem bit_hi (hi lo : Int) (k : Nat) (h : 65 ≤ k) (a0 : 0 ≤ hi) (a1 : hi < 9223372036854775808) (b0 : 0 ≤ lo) (b1 : lo < 18446744073709551616) :
    bits .and .u64 (hi / 2 ^ (k - 1 - 64)) 1 = (hi * 18446744073709551616 + lo) / 2 ^ (k - 1) % 2 := by
  have e : (2 : Int) ^ (k - 1) = 18446744073709551616 * 2 ^ (k - 1 - 64) := by
    rw [show (18446744073709551616 : Int) = 2 ^ 64 from rfl, ← Int.pow_add]; congr 1; omega
  have hp := two_pow_pos (k - 1 - 64)
  have h0 : 0 ≤ hi / 2 ^ (k - 1 - 64) := Int.ediv_nonneg a0 (by omega)
  have h1 : hi / 2 ^ (k - 1 - 64) ≤ hi := Int.ediv_le_self _ a0
  rw [and_one _ h0 (by omega), e, ← Int.ediv_ediv_of_nonneg (by decide), show (hi * 18446744073709551616 + lo) / 18446744073709551616 = hi by omega]

theorem bit_lo (hi lo : Int) (k : Nat) (h : 1 ≤ k) (h' : k ≤ 64) (b0 : 0 ≤ lo) (b1 : lo < 18446744073709551616) :
    bits .and .u64 (lo / 2 ^ (k - 1)) 1 = (hi * 18446744073709551616 + lo) / 2 ^ (k - 1) % 2 := by
  have hp := two_pow_pos (k - 1)
  have e : (18446744073709551616 : Int) = 2 ^ (64 - k) * 2 * 2 ^ (k - 1) := by
    rw [show (2 : Int) ^ (64 - k) * 2 = 2 ^ (64 - k + 1) from (Int.pow_succ _ _).symm, ← Int.pow_add, show 64 - k + 1 + (k - 1) = 64 by omega]; rfl
  have h0 : 0 ≤ lo / 2 ^ (k - 1) := Int.ediv_nonneg b0 (by omega)
  have h1 : lo / 2 ^ (k - 1) ≤ lo := Int.ediv_le_self _ b0
  rw [and_one _ h0 (by omega)]
  have e2 : hi * 18446744073709551616 + lo = lo + hi * 2 ^ (64 - k) * 2 * 2 ^ (k - 1) := by
    conv => lhs; rw [e]
    rw [Int.add_comm, ← Int.mul_assoc, ← Int.mul_assoc]
  rw [e2, Int.add_mul_ediv_right _ _ (by omega)]
  omega

/-- One round: what the registers come to, in the walk's own spelling. -/
theorem round_eqs (e N M' qh ql r bt : Int) (e0 : 0 < e) (e1 : e < 9223372036854775808) (g1 : 0 ≤ qh) (g2 : qh < 4611686018427387904) (g3 : 0 ≤ ql) (g4 : ql < 18446744073709551616) (g5 : 0 ≤ r) (g6 : r < e)
    (N1 : N < 4611686018427387904 * 18446744073709551616) (b0 : 0 ≤ bt) (b1 : bt < 2) (HQ : (qh * 18446744073709551616 + ql) * e + r = M') (HB : N = 2 * M' + bt) :
    ∃ r' qh' ql' ql1 : Int, bits .or .u64 (r * 2) bt = r' ∧ bits .or .u64 (qh * 2) (ql / 9223372036854775808) = qh' ∧ IntKind.u64.wrap (ql * 2) = ql' ∧ bits .or .u64 ql' 1 = ql1 ∧
      0 ≤ r' ∧ r' < 18446744073709551616 ∧ 0 ≤ qh' ∧ qh' < 4611686018427387904 ∧ 0 ≤ ql' ∧ ql' < 18446744073709551616 ∧ 0 ≤ ql1 ∧ ql1 < 18446744073709551616 ∧
      (r' < e → (qh' * 18446744073709551616 + ql') * e + r' = N) ∧ (e ≤ r' → 0 ≤ r' - e ∧ r' - e < e ∧ (qh' * 18446744073709551616 + ql1) * e + (r' - e) = N) := by
  have o1 := or_bit r bt g5 (by omega) b0 b1
  have o2 := or_bit qh (ql / 9223372036854775808) g1 (by omega) (by omega) (by omega)
  have hwl : IntKind.u64.wrap (ql * 2) = (ql % 9223372036854775808) * 2 := by rw [IntKind.wrap_u64]; omega
  have o3 := or_bit (ql % 9223372036854775808) 1 (by omega) (by omega) (by omega) (by omega)
  refine ⟨r * 2 + bt, qh * 2 + ql / 9223372036854775808, (ql % 9223372036854775808) * 2, (ql % 9223372036854775808) * 2 + 1, o1, o2, hwl, o3, by omega, by omega, by omega, ?_, by omega, by omega, by omega, by omega, ?_, ?_⟩
  · have hge : qh * 18446744073709551616 + ql ≤ (qh * 18446744073709551616 + ql) * e := by
      have := Int.mul_le_mul_of_nonneg_left (show 1 ≤ e by omega) (show 0 ≤ qh * 18446744073709551616 + ql by omega)
      rw [Int.mul_one] at this
      exact this
    omega
  · intro _
    have e1 : (qh * 2 + ql / 9223372036854775808) * 18446744073709551616 + ql % 9223372036854775808 * 2 = 2 * (qh * 18446744073709551616 + ql) := by omega
    rw [e1, Int.mul_assoc]
    omega
  · intro h
    have e1 : (qh * 2 + ql / 9223372036854775808) * 18446744073709551616 + (ql % 9223372036854775808 * 2 + 1) = 2 * (qh * 18446744073709551616 + ql) + 1 := by omega
    rw [e1, Int.add_mul, Int.mul_assoc, Int.one_mul]
    omega

theorem model_end (e N qh ql r : Int) (g5 : 0 ≤ r) (g6 : r < e) (HQ : (qh * 18446744073709551616 + ql) * e + r = N) :
    N / e = qh * 18446744073709551616 + ql ∧ N % e = r :=
  (Int.ediv_emod_unique (by omega)).2 ⟨by rw [Int.mul_comm e]; omega, g5, g6⟩

end Go.Proofs.Ybulkdzum
