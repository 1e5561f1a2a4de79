/-
  zzs6317cmodel, walked.
-/
import Derived.Test.YbulkdzumWalksC3
namespace Go.Proofs.Ybulkdzum
open Go.RowKit PlainC

theorem model_words (n p c : Int) (p0 : 0 < p) (p1 : p < 9223372036854775808) (n0 : 0 < n) (n1 : n < 9223372036854775808) (c0 : 0 ≤ c) (c1 : c < p) :
    ∃ M mh ml hi lo b : Int, n * p = M ∧ M / 18446744073709551616 = mh ∧ M % 18446744073709551616 = ml ∧ mh - b = hi ∧ ml - c = lo - b * 18446744073709551616 ∧ 0 ≤ b ∧ b ≤ 1 ∧ 0 ≤ mh ∧ mh < 18446744073709551616 ∧ 0 ≤ ml ∧ ml < 18446744073709551616 ∧ 0 ≤ hi ∧ hi < 4611686018427387904 ∧ 0 ≤ lo ∧ lo < 18446744073709551616 ∧ n * p - c = hi * 18446744073709551616 + lo := by
  have M0 : p ≤ n * p := by
    have := Int.mul_le_mul_of_nonneg_right (show 1 ≤ n by omega) (show 0 ≤ p by omega)
    rw [Int.one_mul] at this
    exact this
  have M1 : n * p < 9223372036854775808 * 9223372036854775808 := Int.mul_lt_mul' (by omega) p1 (by omega) (by omega)
  refine ⟨_, _, _, (n * p - c) / 18446744073709551616, (n * p - c) % 18446744073709551616, n * p / 18446744073709551616 - (n * p - c) / 18446744073709551616, rfl, rfl, rfl, ?_⟩
  omega

theorem hide {p : Prop} (h : p) : Hid p := h

theorem val_int {k : IntKind} {a b : Int} (h : a = b) : Value.int k a = .int k b := by rw [h]

set_option maxHeartbeats 2000000 in
theorem model_any (e p n c : Int) (w : World) (e0 : 0 < e) (e1 : e < 9223372036854775808) (p0 : 0 < p) (p1 : p < 9223372036854775808) (n0 : 0 < n) (n1 : n < 9223372036854775808) (c0 : 0 ≤ c) (c1 : c < p) :
    Calls Yba.prog 12 #[.int .i64 e, .int .i64 p, .int .i64 n, .int .i64 c] w fun r w' => r = .returned (.int .i64 (span (n * p - c) e)) ∧ w' = w := by
  obtain ⟨M, mh, ml, hi, lo, b, hM, hmh, hml, hhi, f1, f2, f3, f4, f4', f5, f6, f7, f8, f9, f10, f11⟩ := model_words n p c p0 p1 n0 n1 c0 c1
  have hsub := fun w => sub_at ml c lo b f5 c0 (by omega) f1 f9 f10 f6 w
  rw [f11]
  clear f11 f1
  obtain ⟨N, hN⟩ : ∃ N, hi * 18446744073709551616 + lo = N := ⟨_, rfl⟩
  have HN : Hid (hi * 18446744073709551616 + lo = N) := hN
  have N0 : 0 ≤ N := by omega
  have N1 : N < 4611686018427387904 * 18446744073709551616 := by omega
  rw [hN]
  clear hN
  go_enter Yba.func12, Yba.ntmps12
  go_wp2_with (go_at_call 21; refine (mul_all _ _ _ (by omega) (by omega) (by omega) (by omega)).mono ?_; rintro e w' ⟨rfl, rfl⟩)
  clear hsub hM hmh hml hhi
  go_loop [14, 15, 16, 17] (fun a b c d => ∃ k : Nat, k ≤ 128 ∧ d = .int .i64 ((k : Int) - 1) ∧ ∃ qh ql r : Int, a = .int .u64 qh ∧ b = .int .u64 ql ∧ c = .int .u64 r ∧ 0 ≤ qh ∧ qh < 4611686018427387904 ∧ 0 ≤ ql ∧ ql < 18446744073709551616 ∧ 0 ≤ r ∧ r < e ∧ Hid ((qh * 18446744073709551616 + ql) * e + r = N / 2 ^ k)) (fun _ _ _ d => (intOf d + 1).toNat)
  case atStart =>
    refine ⟨128, by omega, by go_num, 0, 0, 0, rfl, rfl, rfl, by omega, by omega, by omega, by omega, by omega, by omega, ?_⟩
    show _ = _
    rw [Int.ediv_eq_zero_of_lt N0 (by rw [show (2 : Int) ^ 128 = 18446744073709551616 * 18446744073709551616 from rfl]; omega)]
    omega
  case round =>
    obtain ⟨k, hk, rfl, qh, ql, r, rfl, rfl, rfl, g1, g2, g3, g4, g5, g6, HQ⟩ := hrel
    by_cases h0 : k = 0
    · subst h0
      obtain ⟨d1, d2⟩ := model_end e N qh ql r g5 g6 (by have := HQ.out; rw [Int.pow_zero, Int.ediv_one] at this; exact this)
      have hs0 := @span_huge N e
      have hs1 := @span_even N e
      have hs2 := @span_last N e
      have hs3 := @span_up N e
      rw [d1] at hs0 hs1 hs2 hs3
      rw [d2] at hs1 hs2 hs3
      clear HQ HN d1 d2
      by_cases z : qh = 0
      · subst z
        rw [Int.zero_mul, Int.zero_add] at hs0 hs1 hs2 hs3
        by_cases z1 : 9223372036854775808 ≤ ql
        · have HS := hide (hs0 z1)
          clear hs0 hs1 hs2 hs3
          have z2 : (9223372036854775807 : Int) < ql := by omega
          go_wp2
          go_ret
          exact ⟨ret_int HS.out.symm, rfl⟩
        · have z2 : ¬ (9223372036854775807 : Int) < ql := by omega
          by_cases z3 : r = 0
          · have HS := hide (hs1 (by omega) z3)
            have z4 : (r != 0) = false := by simp [z3]
            clear hs0 hs1 hs2 hs3 z3 z1
            go_wp2
            go_ret
            exact ⟨ret_int HS.out.symm, rfl⟩
          · have z4 : (r != 0) = true := by simp [z3]
            by_cases z5 : ql = 9223372036854775807
            · have HS := hide (hs2 z5 z3)
              have z6 : (ql == 9223372036854775807) = true := by simp [z5]
              clear hs0 hs1 hs2 hs3 z3 z1 z5
              go_wp2
              go_ret
              exact ⟨ret_int HS.out.symm, rfl⟩
            · have HS := hide (hs3 (by omega) z3)
              have z6 : (ql == 9223372036854775807) = false := by simp [z5]
              have z7 : ql < 9223372036854775807 := by omega
              clear hs0 hs1 hs2 hs3 z3 z1 z5
              go_wp2
              go_ret
              exact ⟨ret_int HS.out.symm, rfl⟩
      · have HS := hide (hs0 (by omega))
        have z4 : (qh != 0) = true := by simp [z]
        clear hs0 hs1 hs2 hs3 z
        go_wp2
        go_ret
        exact ⟨ret_int HS.out.symm, rfl⟩
    · have hb : ∃ bt, N / 2 ^ (k - 1) % 2 = bt := ⟨_, rfl⟩
      obtain ⟨bt, hbt⟩ := hb
      have hh := half N k (by omega)
      have hN' : N / 2 ^ (k - 1) ≤ N := Int.ediv_le_self _ N0
      obtain ⟨r', qh', ql', ql1, q1, q2, q3, q4, m1, m2, m3, m4, m5, m6, m7, m8, m9, m10⟩ := round_eqs e (N / 2 ^ (k - 1)) (N / 2 ^ k) qh ql r bt e0 e1 g1 g2 g3 g4 g5 g6 (by omega) (by omega) (by omega) HQ.out (by rw [hbt] at hh; exact hh)
      have hmeas : (intOf (.int .i64 ((k : Int) - 1 - 1)) + 1).toNat < (intOf (.int .i64 ((k : Int) - 1)) + 1).toNat := by simp only [intOf]; omega
      have HM : Hid ((intOf (.int .i64 ((k : Int) - 1 - 1)) + 1).toNat < (intOf (.int .i64 ((k : Int) - 1)) + 1).toNat) := hmeas
      have hk1 : (1 : Int) ≤ k := by omega
      clear hmeas hh hN' HQ h0
      by_cases h64 : 65 ≤ k
      · have hbit := bit_hi hi lo k h64 f7 (by omega) f9 f10
        rw [HN.out, hbt] at hbit
        have h64' : (64 : Int) ≤ (k : Int) - 1 := by omega
        clear hbt HN h64
        by_cases hr : e ≤ r'
        · obtain ⟨j1, j2, j3⟩ := m10 hr
          have J3 : Hid ((qh' * 18446744073709551616 + ql1) * e + (r' - e) = N / 2 ^ (k - 1)) := j3
          clear m9 m10 j3
          go_wp2
          exact ⟨⟨k - 1, by omega, val_int (by omega), _, _, _, rfl, rfl, rfl, m3, m4, m7, m8, j1, j2, J3⟩, HM.out⟩
        · have j3 := m9 (by omega)
          have J3 : Hid ((qh' * 18446744073709551616 + ql') * e + r' = N / 2 ^ (k - 1)) := j3
          clear m9 m10 j3
          go_wp2
          exact ⟨⟨k - 1, by omega, val_int (by omega), _, _, _, rfl, rfl, rfl, m3, m4, m5, m6, m1, (by omega), J3⟩, HM.out⟩
      · have hbit := bit_lo hi lo k (by omega) (by omega) f9 f10
        rw [HN.out, hbt] at hbit
        have h64' : ¬ (64 : Int) ≤ (k : Int) - 1 := by omega
        clear hbt HN h64
        by_cases hr : e ≤ r'
        · obtain ⟨j1, j2, j3⟩ := m10 hr
          have J3 : Hid ((qh' * 18446744073709551616 + ql1) * e + (r' - e) = N / 2 ^ (k - 1)) := j3
          clear m9 m10 j3
          go_wp2
          exact ⟨⟨k - 1, by omega, val_int (by omega), _, _, _, rfl, rfl, rfl, m3, m4, m7, m8, j1, j2, J3⟩, HM.out⟩
        · have j3 := m9 (by omega)
          have J3 : Hid ((qh' * 18446744073709551616 + ql') * e + r' = N / 2 ^ (k - 1)) := j3
          clear m9 m10 j3
          go_wp2
          exact ⟨⟨k - 1, by omega, val_int (by omega), _, _, _, rfl, rfl, rfl, m3, m4, m5, m6, m1, (by omega), J3⟩, HM.out⟩

end Go.Proofs.Ybulkdzum
