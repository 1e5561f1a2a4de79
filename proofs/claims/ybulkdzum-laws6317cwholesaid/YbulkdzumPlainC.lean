/-
  The plain mathematics for LawS6317CWhole: one digit of math/bits.Div64's division (base 2^32), its two digits together, the shift ahead of it; the division bit by bit. No Go text in sight.
-/
import Derived.Laws.MathBits
import Derived.Laws.Bits64b
import Derived.Lib.BitFns
namespace Go.Proofs.Ybulkdzum.PlainC
set_option linter.unusedVariables false

/-! ### One digit -/

/-- What the loop of one digit keeps. -/
def Inv (y1 y0 u u1 q r : Int) : Prop :=
  q * y1 + r = u ∧ 0 ≤ q ∧ q ≤ 4294967297 ∧ 0 ≤ r ∧ r < 4294967296 ∧ u * 4294967296 + u1 < (q + 1) * (y1 * 4294967296 + y0)

theorem expand (q y1 y0 : Int) : q * (y1 * 4294967296 + y0) = q * y1 * 4294967296 + q * y0 := by
  rw [Int.mul_add, Int.mul_assoc]

theorem expand1 (q y1 y0 : Int) : (q + 1) * (y1 * 4294967296 + y0) = q * y1 * 4294967296 + q * y0 + (y1 * 4294967296 + y0) := by
  rw [Int.add_mul, expand, Int.one_mul]

theorem inv_start (y1 y0 u u1 : Int) (a1 : 2147483648 ≤ y1) (a2 : y1 < 4294967296) (b1 : 0 ≤ y0) (b2 : y0 < 4294967296) (c1 : 0 ≤ u) (c2 : u < y1 * 4294967296 + y0) (d2 : u1 < 4294967296) :
    Inv y1 y0 u u1 (u / y1) (u - u / y1 * y1) := by
  have e : u / y1 * y1 + u % y1 = u := Int.ediv_mul_add_emod u y1
  have r0 : 0 ≤ u % y1 := Int.emod_nonneg _ (by omega)
  have r1 : u % y1 < y1 := Int.emod_lt_of_pos _ (by omega)
  have q0 : 0 ≤ u / y1 := Int.ediv_nonneg c1 (by omega)
  generalize u / y1 = q at *
  generalize u % y1 = r at *
  have er : u - q * y1 = r := by omega
  rw [er]
  have hq : q ≤ 4294967297 := by
    by_cases h : q ≤ 4294967297
    · exact h
    · have h' : 0 ≤ (q - 4294967298) * y1 := Int.mul_nonneg (by omega) (by omega)
      rw [Int.sub_mul] at h'
      omega
  have hb : 0 ≤ q * y0 := Int.mul_nonneg q0 b1
  refine ⟨e, q0, hq, r0, by omega, ?_⟩
  rw [expand1]
  omega

/-- The loop's test says 'one less': what holds behind the step. -/
theorem inv_next (y1 y0 u u1 q r : Int) (a1 : 2147483648 ≤ y1) (b1 : 0 ≤ y0) (b2 : y0 < 4294967296) (c1 : 0 ≤ u) (c2 : u < y1 * 4294967296 + y0) (d1 : 0 ≤ u1) (d2 : u1 < 4294967296)
    (h : Inv y1 y0 u u1 q r) (t : 4294967296 ≤ q ∨ 4294967296 * r + u1 < q * y0) :
    0 ≤ q - 1 ∧ q - 1 ≤ 4294967296 ∧ (q - 1) * y1 + (r + y1) = u ∧ u * 4294967296 + u1 < (q - 1 + 1) * (y1 * 4294967296 + y0) ∧ (4294967296 ≤ r + y1 → (q - 1) * y0 ≤ 4294967296 * (r + y1) + u1) := by
  obtain ⟨e, q0, q1, r0, r1, hD⟩ := h
  have hlt : u * 4294967296 + u1 < q * (y1 * 4294967296 + y0) := by
    rcases t with t | t
    · have h' : 0 ≤ (q - 4294967296) * (y1 * 4294967296 + y0) := Int.mul_nonneg (by omega) (by omega)
      rw [Int.sub_mul] at h'
      omega
    · rw [expand]
      omega
  have hq : 1 ≤ q := by
    by_cases g : 1 ≤ q
    · exact g
    · have : q = 0 := by omega
      subst this
      simp at hlt
      omega
  refine ⟨by omega, by omega, ?_, ?_, ?_⟩
  · rw [Int.sub_mul]; omega
  · rw [Int.sub_add_cancel]; exact hlt
  · intro g
    have h' : 0 ≤ (4294967296 - (q - 1)) * y0 := Int.mul_nonneg (by omega) b1
    rw [Int.sub_mul] at h'
    omega

/-- The loop is left: the digit, and what is over. -/
theorem digit (y1 y0 u u1 q r : Int) (a1 : 2147483648 ≤ y1) (b1 : 0 ≤ y0) (b2 : y0 < 4294967296) (c2 : u < y1 * 4294967296 + y0) (d2 : u1 < 4294967296)
    (e : q * y1 + r = u) (q0 : 0 ≤ q) (hD : u * 4294967296 + u1 < (q + 1) * (y1 * 4294967296 + y0)) (t : q * y0 ≤ 4294967296 * r + u1) :
    ∃ R, u * 4294967296 + u1 = q * (y1 * 4294967296 + y0) + R ∧ 0 ≤ R ∧ R < y1 * 4294967296 + y0 ∧ q < 4294967296 := by
  refine ⟨u * 4294967296 + u1 - q * (y1 * 4294967296 + y0), by omega, ?_, ?_, ?_⟩
  · rw [expand]; omega
  · rw [expand1, ← expand] at hD; omega
  · by_cases g : q < 4294967296
    · exact g
    · have h' : 0 ≤ (q - 4294967296) * (y1 * 4294967296 + y0) := Int.mul_nonneg (by omega) (by omega)
      rw [Int.sub_mul, expand] at h'
      omega

/-! ### Both digits, and the shift ahead of them -/

theorem whole (hi lo y S u v u1 u0 q1 q0 R1 R2 : Int) (hS : 0 < S)
    (hu : u * 18446744073709551616 + v = (hi * 18446744073709551616 + lo) * S) (hv : v = u1 * 4294967296 + u0)
    (e1 : u * 4294967296 + u1 = q1 * (y * S) + R1) (e2 : R1 * 4294967296 + u0 = q0 * (y * S) + R2) (r0 : 0 ≤ R2) (r1 : R2 < y * S) :
    (hi * 18446744073709551616 + lo) / y = q1 * 4294967296 + q0 ∧ (hi * 18446744073709551616 + lo) % y = R2 / S := by
  generalize hN : hi * 18446744073709551616 + lo = N at *
  have key : N * S = (q1 * 4294967296 + q0) * (y * S) + R2 := by
    rw [Int.add_mul]
    have : q1 * 4294967296 * (y * S) = q1 * (y * S) * 4294967296 := by rw [Int.mul_right_comm]
    rw [this]
    omega
  generalize q1 * 4294967296 + q0 = Q at *
  have hR : R2 = (N - Q * y) * S := by
    rw [Int.sub_mul, Int.mul_assoc]
    omega
  have hd : R2 / S = N - Q * y := by rw [hR]; exact Int.mul_ediv_cancel _ (by omega)
  have p0 : 0 ≤ N - Q * y := by
    rw [← hd]; exact Int.ediv_nonneg r0 (by omega)
  have p1 : N - Q * y < y := by
    rw [hR] at r1
    exact Int.lt_of_mul_lt_mul_right r1 (by omega)
  have hu := (Int.ediv_emod_unique (a := N) (b := y) (r := N - Q * y) (q := Q) (by omega)).2 ⟨by rw [Int.mul_comm y Q]; omega, p0, p1⟩
  rw [hd]
  exact hu

theorem two_pow_pos (s : Nat) : (0 : Int) < 2 ^ s := Int.pow_pos (by decide)

theorem pow_split (s : Nat) (h : s ≤ 64) : (2 : Int) ^ s * 2 ^ (64 - s) = 18446744073709551616 := by
  rw [← Int.pow_add]
  have : s + (64 - s) = 64 := by omega
  rw [this]; rfl

/-- The shifted dividend's two words. -/
theorem shifted (hi lo : Int) (s : Nat) (h : s ≤ 64) :
    (hi * 2 ^ s + lo / 2 ^ (64 - s)) * 18446744073709551616 + lo * 2 ^ s % 18446744073709551616 = (hi * 18446744073709551616 + lo) * 2 ^ s := by
  have hp := pow_split s h
  have hs := two_pow_pos s
  have ht := two_pow_pos (64 - s)
  generalize (2 : Int) ^ s = S at *
  generalize (2 : Int) ^ (64 - s) = T at *
  have e : lo / T * T + lo % T = lo := Int.ediv_mul_add_emod lo T
  have r0 : 0 ≤ lo % T := Int.emod_nonneg _ (by omega)
  have r1 : lo % T < T := Int.emod_lt_of_pos _ ht
  generalize lo / T = d at *
  generalize lo % T = m at *
  have k1 : lo * S = d * 18446744073709551616 + m * S := by
    rw [← e, Int.add_mul, ← hp, Int.mul_assoc, Int.mul_comm T S]
  have k2 : 0 ≤ m * S := Int.mul_nonneg r0 (by omega)
  have k3 : m * S < 18446744073709551616 := by
    rw [← hp, Int.mul_comm S T]
    exact Int.mul_lt_mul_of_pos_right r1 hs
  have k4 : hi * 18446744073709551616 * S = hi * S * 18446744073709551616 := Int.mul_right_comm _ _ _
  rw [Int.add_mul, Int.add_mul, k4]
  omega

theorem or_shift (a b : Int) (s : Nat) (h : s ≤ 64) (a0 : 0 ≤ a) (a1 : a * 2 ^ s < 18446744073709551616) (b0 : 0 ≤ b) (b1 : b < 2 ^ s) :
    bits .or .u64 (a * 2 ^ s) b = a * 2 ^ s + b := by
  obtain ⟨a, rfl⟩ := Int.eq_ofNat_of_zero_le a0
  obtain ⟨b, rfl⟩ := Int.eq_ofNat_of_zero_le b0
  have e : ((2 : Int) ^ s) = ((2 ^ s : Nat) : Int) := by simp
  have hle : 2 ^ s ≤ 2 ^ 64 := Nat.pow_le_pow_right (by decide) h
  rw [e] at a1 b1 ⊢
  rw [← Int.natCast_mul] at a1 ⊢
  rw [bits_or_u64_nat _ _ (by omega) (by omega)]
  rw [← Nat.shiftLeft_eq, ← Nat.shiftLeft_add_eq_or_of_lt (by omega)]
  simp

/-! ### The leading zeros -/

theorem bitLen_spec (y : Nat) (h0 : y ≠ 0) (h : y < 2 ^ 64) : 2 ^ (Lib.bitLen y - 1) ≤ y ∧ y < 2 ^ Lib.bitLen y ∧ 1 ≤ Lib.bitLen y ∧ Lib.bitLen y ≤ 64 := by
  have hle := Lib.bitLen_le y 64 (Nat.le_refl _) h
  have aux : ∀ f x : Nat, x ≠ 0 → x < 2 ^ f → 2 ^ (Lib.bitLenAux f x - 1) ≤ x ∧ x < 2 ^ Lib.bitLenAux f x ∧ 1 ≤ Lib.bitLenAux f x := by
    intro f
    induction f with
    | zero => intro x hx hlt; simp at hlt; omega
    | succ f ih =>
      intro x hx hlt
      simp only [Lib.bitLenAux, if_neg hx]
      by_cases hh : x / 2 = 0
      · have : x = 1 := by omega
        subst this
        have : Lib.bitLenAux f (1 / 2) = 0 := by cases f <;> simp [Lib.bitLenAux]
        rw [this]; decide
      · obtain ⟨i1, i2, i3⟩ := ih (x / 2) hh (by rw [Nat.pow_succ] at hlt; omega)
        refine ⟨?_, ?_, by omega⟩
        · have e : 1 + Lib.bitLenAux f (x / 2) - 1 = (Lib.bitLenAux f (x / 2) - 1) + 1 := by omega
          rw [e, Nat.pow_succ]; omega
        · rw [Nat.add_comm, Nat.pow_succ]; omega
  obtain ⟨a, b, c⟩ := aux 64 y h0 h
  exact ⟨a, b, c, hle⟩

theorem leading (y : Int) (h0 : 0 < y) (h : y < 18446744073709551616) :
    ∃ s : Nat, s < 64 ∧ (64 - (Lib.bitLen y.toNat : Int)) = s ∧ 9223372036854775808 ≤ y * 2 ^ s ∧ y * 2 ^ s < 18446744073709551616 := by
  obtain ⟨y, rfl⟩ := Int.eq_ofNat_of_zero_le (Int.le_of_lt h0)
  simp only [Int.toNat_natCast]
  obtain ⟨a, b, c, d⟩ := bitLen_spec y (by omega) (by omega)
  generalize Lib.bitLen y = n at *
  refine ⟨64 - n, by omega, by omega, ?_⟩
  have e1 : 2 ^ (n - 1) * 2 ^ (64 - n) = 9223372036854775808 := by
    rw [← Nat.pow_add, show n - 1 + (64 - n) = 63 by omega]
  have e2 : 2 ^ n * 2 ^ (64 - n) = 18446744073709551616 := by
    rw [← Nat.pow_add, show n + (64 - n) = 64 by omega]
  have hp : 0 < 2 ^ (64 - n) := Nat.two_pow_pos _
  have k1 := Nat.mul_le_mul_right (2 ^ (64 - n)) a
  have k2 := Nat.mul_lt_mul_of_pos_right b hp
  rw [e1] at k1
  rw [e2] at k2
  have e : ((2 : Int) ^ (64 - n)) = ((2 ^ (64 - n) : Nat) : Int) := by simp
  rw [e, ← Int.natCast_mul]
  omega

end Go.Proofs.Ybulkdzum.PlainC
