/-
  The plain mathematics for LawS6319BWhole: words of bits, the predicates that they bear. No Go text in sight.
-/
import Derived.Laws.Bits64b
namespace Go.Proofs.Ybulkdzvo.PlainB

theorem bits_andNot_u64_nat (a b : Nat) (ha : a < 18446744073709551616) (hb : b < 18446744073709551616) :
    bits .andNot .u64 (a : Int) (b : Int) = ((a &&& (18446744073709551615 - b) : Nat) : Int) := by
  have hx : a &&& (18446744073709551615 - b) < 2 ^ 64 := Nat.and_lt_two_pow _ (by omega)
  have h1 : (BitVec.ofInt 64 (a : Int)).toNat = a := by
    rw [BitVec.ofInt_natCast, BitVec.toNat_ofNat]; exact Nat.mod_eq_of_lt (by omega)
  have h2 : (BitVec.ofInt 64 (b : Int)).toNat = b := by
    rw [BitVec.ofInt_natCast, BitVec.toNat_ofNat]; exact Nat.mod_eq_of_lt (by omega)
  show IntKind.u64.wrap ((BitVec.ofInt 64 (a : Int) &&& ~~~ (BitVec.ofInt 64 (b : Int))).toNat : Int) = _
  rw [BitVec.toNat_and, BitVec.toNat_not, h1, h2, IntKind.wrap_u64]
  have e : 2 ^ 64 - 1 - b = 18446744073709551615 - b := by omega
  rw [e]
  omega

theorem testBit_clr (x b c : Nat) (hb : b < 64) (hc : c < 64) : (x &&& (18446744073709551615 - 2 ^ b)).testBit c = (x.testBit c && decide (c ≠ b)) := by
  have hp : 2 ^ b < 2 ^ 64 := Nat.pow_lt_pow_right (by decide) hb
  have e : 18446744073709551615 - 2 ^ b = 2 ^ 64 - (2 ^ b + 1) := by omega
  rw [Nat.testBit_and, e, Nat.testBit_two_pow_sub_succ hp, Nat.testBit_two_pow]
  simp [hc]
  by_cases h : b = c
  · simp [h]
  · simp [h, Ne.symm h]

theorem testBit_set (x b c : Nat) : (x ||| 2 ^ b).testBit c = (x.testBit c || decide (c = b)) := by
  rw [Nat.testBit_or, Nat.testBit_two_pow]
  by_cases h : b = c
  · simp [h]
  · simp [h, Ne.symm h]

/-- The words m bear the predicate P. -/
def Bits (m : Nat → Nat) (P : Nat → Bool) : Prop := (∀ q, m q < 18446744073709551616) ∧ ∀ a, a < 65536 → (m (a / 64)).testBit (a % 64) = P a

def upd (m : Nat → Nat) (q v : Nat) : Nat → Nat := fun i => if i = q then v else m i

theorem bits_zero : Bits (fun _ => 0) (fun _ => false) := ⟨fun _ => Nat.zero_lt_succ _, fun a _ => by simp⟩

theorem bits_set {m : Nat → Nat} {P : Nat → Bool} (h : Bits m P) (a : Nat) : Bits (upd m (a / 64) (m (a / 64) ||| 2 ^ (a % 64))) (fun j => P j || j == a) := by
  refine ⟨fun q => ?_, fun j hj => ?_⟩
  · unfold upd
    split
    · have h1 := h.1 (a / 64)
      have h2 : 2 ^ (a % 64) < 2 ^ 64 := Nat.pow_lt_pow_right (by decide) (by omega)
      exact Nat.or_lt_two_pow (n := 64) (by omega) (by omega)
    · exact h.1 q
  · unfold upd
    by_cases e : j / 64 = a / 64
    · rw [if_pos e, testBit_set, ← e, h.2 j hj]
      congr 1
      rw [Bool.eq_iff_iff]
      simp
      omega
    · rw [if_neg e, h.2 j hj]
      have : (j == a) = false := by simp; omega
      simp [this]

theorem bits_clr {m : Nat → Nat} {P : Nat → Bool} (h : Bits m P) (a : Nat) : Bits (upd m (a / 64) (m (a / 64) &&& (18446744073709551615 - 2 ^ (a % 64)))) (fun j => P j && j != a) := by
  refine ⟨fun q => ?_, fun j hj => ?_⟩
  · unfold upd
    split
    · exact Nat.lt_of_le_of_lt Nat.and_le_left (h.1 _)
    · exact h.1 q
  · unfold upd
    by_cases e : j / 64 = a / 64
    · rw [if_pos e, testBit_clr _ _ _ (by omega) (by omega), ← e, h.2 j hj]
      congr 1
      rw [Bool.eq_iff_iff]
      simp
      omega
    · rw [if_neg e, h.2 j hj]
      have : (j != a) = true := by simp; omega
      simp [this]

theorem bits_congr {m : Nat → Nat} {P Q : Nat → Bool} (h : Bits m P) (e : ∀ a, a < 65536 → P a = Q a) : Bits m Q := ⟨h.1, fun a ha => by rw [h.2 a ha, e a ha]⟩

theorem and_one (x : Int) (h0 : 0 ≤ x) (h1 : x < 18446744073709551616) : bits .and .u64 x 1 = x % 2 := by
  obtain ⟨x, rfl⟩ := Int.eq_ofNat_of_zero_le h0
  have := bits_and_u64_nat x 1 (by omega) (by omega)
  rw [show ((1 : Nat) : Int) = 1 from rfl] at this
  rw [this, Nat.and_one_is_mod]
  omega

/-- '(word >> b) & 1 == 1'. -/
theorem bit_test (x b : Nat) (hx : x < 18446744073709551616) : (bits .and .u64 ((x : Int) / 2 ^ b) 1 == 1) = x.testBit b := by
  have hp : (0 : Int) < 2 ^ b := Int.pow_pos (by decide)
  have h0 : 0 ≤ (x : Int) / 2 ^ b := Int.ediv_nonneg (by omega) (by omega)
  have h1 : (x : Int) / 2 ^ b ≤ x := Int.ediv_le_self _ (by omega)
  rw [and_one _ h0 (by omega), Nat.testBit_eq_decide_div_mod_eq]
  have e : (x : Int) / 2 ^ b % 2 = ((x / 2 ^ b % 2 : Nat) : Int) := by
    rw [Int.natCast_emod, Int.natCast_ediv, Int.natCast_pow]; rfl
  rw [e, Bool.eq_iff_iff]
  simp
  omega

end Go.Proofs.Ybulkdzvo.PlainB
