/-
  LawS6317CWhole, walked out of the contracts.
-/
import Derived.Test.YbulkdzumWalksC4
namespace Go.Proofs.Ybulkdzum
open Go.RowKit PlainC

theorem and_max (x : Int) : ∃ y, bits .and .i64 x 9223372036854775807 = y ∧ 0 ≤ y ∧ y < 9223372036854775808 := by
  refine ⟨_, rfl, ?_⟩
  have hx : (BitVec.ofInt 64 x &&& BitVec.ofInt 64 9223372036854775807).toNat < 9223372036854775808 := by
    rw [BitVec.toNat_and]
    exact Nat.lt_of_le_of_lt Nat.and_le_right (by decide)
  have e : bits .and .i64 x 9223372036854775807 = IntKind.i64.wrap ((BitVec.ofInt 64 x &&& BitVec.ofInt 64 9223372036854775807).toNat : Int) := rfl
  rw [e, IntKind.wrap_i64]
  omega

theorem carry_eq (x b : Int) (h : 0 < b) (h' : b < 9223372036854775808) : ∃ c, wrap64 ((IntKind.u64.wrap x).tmod b) = c ∧ 0 ≤ c ∧ c < b := by
  refine ⟨_, rfl, ?_⟩
  have e : (IntKind.u64.wrap x).tmod b = (IntKind.u64.wrap x) % b := Int.tmod_eq_emod_of_nonneg (wrap_u64_nonneg x)
  have r0 : 0 ≤ (IntKind.u64.wrap x) % b := Int.emod_nonneg _ (by omega)
  have r1 : (IntKind.u64.wrap x) % b < b := Int.emod_lt_of_pos _ h
  rw [e]
  generalize (IntKind.u64.wrap x) % b = z at *
  have : wrap64 z = z := by unfold wrap64; omega
  rw [this]
  exact ⟨r0, r1⟩

set_option maxHeartbeats 2000000 in
theorem walkC (a0 a1 a2 a3 : Int) (w : World) :
    Calls Yba.prog 5 #[.int .i64 a0, .int .i64 a1, .int .i64 a2, .int .i64 a3] w fun e w' => e = .returned (.bool true) ∧ Grown w w' := by
  obtain ⟨b0, h0, l0, m0⟩ := and_max a0
  obtain ⟨b1, h1, l1, m1⟩ := and_max a1
  obtain ⟨b2, h2, l2, m2⟩ := and_max a2
  rcases Int.lt_or_eq_of_le l0 with z0 | z0 <;> rcases Int.lt_or_eq_of_le l1 with z1 | z1 <;> rcases Int.lt_or_eq_of_le l2 with z2 | z2
  · have k0 : (b0 == 0) = false := by simp; omega
    have k1 : (b1 == 0) = false := by simp; omega
    have k2 : (b2 == 0) = false := by simp; omega
    obtain ⟨c, hc, c0, c1⟩ := carry_eq a3 b1 z1 m1
    go_enter Yba.func5, Yba.ntmps5
    go_wp2_with (first | (go_at_call 11; refine (span_any _ _ _ _ _ (by omega) (by omega) (by omega) (by omega) (by omega) (by omega) (by omega) (by omega)).mono ?_; rintro r w' ⟨rfl, nq, rfl⟩) | (go_at_call 12; refine (model_any _ _ _ _ _ (by omega) (by omega) (by omega) (by omega) (by omega) (by omega) (by omega) (by omega)).mono ?_; rintro r w' ⟨rfl, rfl⟩))
    go_ret
    exact ⟨rfl, grown_drewN (Grown.alloc (Grown.alloc (Grown.refl _) _ _) _ _) nq⟩
  · have k0 : (b0 == 0) = false := by simp; omega
    have k1 : (b1 == 0) = false := by simp; omega
    obtain rfl : b2 = 0 := z2.symm
    obtain ⟨c, hc, c0, c1⟩ := carry_eq a3 b1 z1 m1
    go_enter Yba.func5, Yba.ntmps5
    go_wp2_with (first | (go_at_call 11; refine (span_any _ _ _ _ _ (by omega) (by omega) (by omega) (by omega) (by omega) (by omega) (by omega) (by omega)).mono ?_; rintro r w' ⟨rfl, nq, rfl⟩) | (go_at_call 12; refine (model_any _ _ _ _ _ (by omega) (by omega) (by omega) (by omega) (by omega) (by omega) (by omega) (by omega)).mono ?_; rintro r w' ⟨rfl, rfl⟩))
    go_ret
    exact ⟨rfl, grown_drewN (Grown.alloc (Grown.alloc (Grown.refl _) _ _) _ _) nq⟩
  · have k0 : (b0 == 0) = false := by simp; omega
    obtain rfl : b1 = 0 := z1.symm
    have k2 : (b2 == 0) = false := by simp; omega
    go_enter Yba.func5, Yba.ntmps5
    go_wp2_with (first | (go_at_call 11; refine (span_any _ _ _ _ _ (by omega) (by omega) (by omega) (by omega) (by omega) (by omega) (by omega) (by omega)).mono ?_; rintro r w' ⟨rfl, nq, rfl⟩) | (go_at_call 12; refine (model_any _ _ _ _ _ (by omega) (by omega) (by omega) (by omega) (by omega) (by omega) (by omega) (by omega)).mono ?_; rintro r w' ⟨rfl, rfl⟩))
    go_ret
    exact ⟨rfl, grown_drewN (Grown.alloc (Grown.alloc (Grown.refl _) _ _) _ _) nq⟩
  · have k0 : (b0 == 0) = false := by simp; omega
    obtain rfl : b1 = 0 := z1.symm
    obtain rfl : b2 = 0 := z2.symm
    go_enter Yba.func5, Yba.ntmps5
    go_wp2_with (first | (go_at_call 11; refine (span_any _ _ _ _ _ (by omega) (by omega) (by omega) (by omega) (by omega) (by omega) (by omega) (by omega)).mono ?_; rintro r w' ⟨rfl, nq, rfl⟩) | (go_at_call 12; refine (model_any _ _ _ _ _ (by omega) (by omega) (by omega) (by omega) (by omega) (by omega) (by omega) (by omega)).mono ?_; rintro r w' ⟨rfl, rfl⟩))
    go_ret
    exact ⟨rfl, grown_drewN (Grown.alloc (Grown.alloc (Grown.refl _) _ _) _ _) nq⟩
  · obtain rfl : b0 = 0 := z0.symm
    have k1 : (b1 == 0) = false := by simp; omega
    have k2 : (b2 == 0) = false := by simp; omega
    obtain ⟨c, hc, c0, c1⟩ := carry_eq a3 b1 z1 m1
    go_enter Yba.func5, Yba.ntmps5
    go_wp2_with (first | (go_at_call 11; refine (span_any _ _ _ _ _ (by omega) (by omega) (by omega) (by omega) (by omega) (by omega) (by omega) (by omega)).mono ?_; rintro r w' ⟨rfl, nq, rfl⟩) | (go_at_call 12; refine (model_any _ _ _ _ _ (by omega) (by omega) (by omega) (by omega) (by omega) (by omega) (by omega) (by omega)).mono ?_; rintro r w' ⟨rfl, rfl⟩))
    go_ret
    exact ⟨rfl, grown_drewN (Grown.alloc (Grown.alloc (Grown.refl _) _ _) _ _) nq⟩
  · obtain rfl : b0 = 0 := z0.symm
    have k1 : (b1 == 0) = false := by simp; omega
    obtain rfl : b2 = 0 := z2.symm
    obtain ⟨c, hc, c0, c1⟩ := carry_eq a3 b1 z1 m1
    go_enter Yba.func5, Yba.ntmps5
    go_wp2_with (first | (go_at_call 11; refine (span_any _ _ _ _ _ (by omega) (by omega) (by omega) (by omega) (by omega) (by omega) (by omega) (by omega)).mono ?_; rintro r w' ⟨rfl, nq, rfl⟩) | (go_at_call 12; refine (model_any _ _ _ _ _ (by omega) (by omega) (by omega) (by omega) (by omega) (by omega) (by omega) (by omega)).mono ?_; rintro r w' ⟨rfl, rfl⟩))
    go_ret
    exact ⟨rfl, grown_drewN (Grown.alloc (Grown.alloc (Grown.refl _) _ _) _ _) nq⟩
  · obtain rfl : b0 = 0 := z0.symm
    obtain rfl : b1 = 0 := z1.symm
    have k2 : (b2 == 0) = false := by simp; omega
    go_enter Yba.func5, Yba.ntmps5
    go_wp2_with (first | (go_at_call 11; refine (span_any _ _ _ _ _ (by omega) (by omega) (by omega) (by omega) (by omega) (by omega) (by omega) (by omega)).mono ?_; rintro r w' ⟨rfl, nq, rfl⟩) | (go_at_call 12; refine (model_any _ _ _ _ _ (by omega) (by omega) (by omega) (by omega) (by omega) (by omega) (by omega) (by omega)).mono ?_; rintro r w' ⟨rfl, rfl⟩))
    go_ret
    exact ⟨rfl, grown_drewN (Grown.alloc (Grown.alloc (Grown.refl _) _ _) _ _) nq⟩
  · obtain rfl : b0 = 0 := z0.symm
    obtain rfl : b1 = 0 := z1.symm
    obtain rfl : b2 = 0 := z2.symm
    go_enter Yba.func5, Yba.ntmps5
    go_wp2_with (first | (go_at_call 11; refine (span_any _ _ _ _ _ (by omega) (by omega) (by omega) (by omega) (by omega) (by omega) (by omega) (by omega)).mono ?_; rintro r w' ⟨rfl, nq, rfl⟩) | (go_at_call 12; refine (model_any _ _ _ _ _ (by omega) (by omega) (by omega) (by omega) (by omega) (by omega) (by omega) (by omega)).mono ?_; rintro r w' ⟨rfl, rfl⟩))
    go_ret
    exact ⟨rfl, grown_drewN (Grown.alloc (Grown.alloc (Grown.refl _) _ _) _ _) nq⟩

end Go.Proofs.Ybulkdzum
