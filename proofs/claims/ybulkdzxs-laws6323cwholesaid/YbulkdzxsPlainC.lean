/-
  The plain mathematics for LawS6323CWhole: the first bit at which two rows of bytes differ. No Go text in sight.
-/
import Derived.Laws.Bits64b
import Derived.Lib.BitFns
namespace Go.Proofs.Ybulkdzxs.PlainC

/-- Bit j of a row of bytes, the most significant of each byte first. -/
def bitAt (zs : List Int) (j : Nat) : Int := zs.getD (j / 8) 0 / 2 ^ (7 - j % 8) % 2

/-- r is the least place below n at which the two rows differ, or -1. -/
def IsFirst (zs ys : List Int) (n : Nat) (r : Int) : Prop :=
  (r = -1 ∧ ∀ j, j < n → bitAt zs j = bitAt ys j) ∨ ∃ j : Nat, j < n ∧ r = (j : Int) ∧ bitAt zs j ≠ bitAt ys j ∧ ∀ i, i < j → bitAt zs i = bitAt ys i

theorem IsFirst.unique {zs ys : List Int} {n : Nat} {r s : Int} (h : IsFirst zs ys n r) (k : IsFirst zs ys n s) : r = s := by
  rcases h with ⟨rfl, h⟩ | ⟨j, hj, rfl, hd, he⟩ <;> rcases k with ⟨rfl, k⟩ | ⟨i, hi, rfl, kd, ke⟩
  · rfl
  · exact absurd (h i hi) kd
  · exact absurd (k j hj) hd
  · have : j = i := by
      rcases Nat.lt_trichotomy j i with g | g | g
      · exact absurd (ke j g) hd
      · exact g
      · exact absurd (he i g) kd
    rw [this]

theorem bits_xor_u8_nat (a b : Nat) (ha : a < 256) (hb : b < 256) : bits .xor .u8 (a : Int) (b : Int) = ((a ^^^ b : Nat) : Int) := by
  have hx : a ^^^ b < 2 ^ 8 := Nat.xor_lt_two_pow (by omega) (by omega)
  have h1 : (BitVec.ofInt 8 (a : Int)).toNat = a := by
    rw [BitVec.ofInt_natCast, BitVec.toNat_ofNat]; exact Nat.mod_eq_of_lt (by omega)
  have h2 : (BitVec.ofInt 8 (b : Int)).toNat = b := by
    rw [BitVec.ofInt_natCast, BitVec.toNat_ofNat]; exact Nat.mod_eq_of_lt (by omega)
  show IntKind.u8.wrap ((BitVec.ofInt 8 (a : Int) ^^^ BitVec.ofInt 8 (b : Int)).toNat : Int) = _
  rw [BitVec.toNat_xor, h1, h2]
  simp [IntKind.wrap, IntKind.bits, IntKind.signed]
  omega

theorem and_one_u8 (x : Int) (h0 : 0 ≤ x) (h1 : x ≤ 255) : bits .and .u8 x 1 = x % 2 := by
  obtain ⟨x, rfl⟩ := Int.eq_ofNat_of_zero_le h0
  have h2 : (BitVec.ofInt 8 (x : Int)).toNat = x := by
    rw [BitVec.ofInt_natCast, BitVec.toNat_ofNat]; exact Nat.mod_eq_of_lt (by omega)
  show IntKind.u8.wrap ((BitVec.ofInt 8 (x : Int) &&& BitVec.ofInt 8 1).toNat : Int) = _
  rw [BitVec.toNat_and, h2, show (BitVec.ofInt 8 1).toNat = 1 from rfl, Nat.and_one_is_mod]
  simp [IntKind.wrap, IntKind.bits, IntKind.signed]
  omega

theorem bitLen_spec (y : Nat) (h0 : y ≠ 0) (h : y < 2 ^ 64) : 2 ^ (Lib.bitLen y - 1) ≤ y ∧ y < 2 ^ Lib.bitLen y ∧ 1 ≤ Lib.bitLen y := by
  have aux : ∀ f x : Nat, x ≠ 0 → x < 2 ^ f → 2 ^ (Lib.bitLenAux f x - 1) ≤ x ∧ x < 2 ^ Lib.bitLenAux f x ∧ 1 ≤ Lib.bitLenAux f x := by
    intro f
    induction f with
    | zero => intro x hx hlt; simp at hlt; omega
    | succ f ih =>
      intro x hx hlt
      simp only [Lib.bitLenAux, if_neg hx]
      by_cases hh : x / 2 = 0
      · have : x = 1 := by omega
        subst this
        have : Lib.bitLenAux f (1 / 2) = 0 := by cases f <;> simp [Lib.bitLenAux]
        rw [this]; decide
      · obtain ⟨i1, i2, i3⟩ := ih (x / 2) hh (by rw [Nat.pow_succ] at hlt; omega)
        refine ⟨?_, ?_, by omega⟩
        · have e : 1 + Lib.bitLenAux f (x / 2) - 1 = (Lib.bitLenAux f (x / 2) - 1) + 1 := by omega
          rw [e, Nat.pow_succ]; omega
        · rw [Nat.add_comm, Nat.pow_succ]; omega
  exact aux 64 y h0 h

theorem testBit_div (a k : Nat) : a.testBit k = decide (a / 2 ^ k % 2 = 1) := Nat.testBit_eq_decide_div_mod_eq

/-- Where the xor's top bit stands the two bytes differ; above it they are alike. -/
theorem xor_bits (a b : Nat) (ha : a < 256) (hb : b < 256) (hx : a ^^^ b ≠ 0) :
    1 ≤ Lib.bitLen (a ^^^ b) ∧ Lib.bitLen (a ^^^ b) ≤ 8 ∧ a / 2 ^ (Lib.bitLen (a ^^^ b) - 1) % 2 ≠ b / 2 ^ (Lib.bitLen (a ^^^ b) - 1) % 2 ∧
      ∀ k, Lib.bitLen (a ^^^ b) ≤ k → a / 2 ^ k % 2 = b / 2 ^ k % 2 := by
  have hlt : a ^^^ b < 2 ^ 8 := Nat.xor_lt_two_pow (by omega) (by omega)
  obtain ⟨h1, h2, h3⟩ := bitLen_spec (a ^^^ b) hx (by omega)
  have h4 := Lib.bitLen_le (a ^^^ b) 8 (by omega) hlt
  have key : ∀ k, (a ^^^ b).testBit k = (a.testBit k ^^ b.testBit k) := fun k => Nat.testBit_xor ..
  generalize hL : Lib.bitLen (a ^^^ b) = L at *
  refine ⟨h3, h4, ?_, ?_⟩
  · intro he
    have := key (L - 1)
    rw [testBit_div, testBit_div, testBit_div, he] at this
    simp at this
    have hd : (a ^^^ b) / 2 ^ (L - 1) = 1 := by
      have hp : 0 < 2 ^ (L - 1) := Nat.two_pow_pos _
      have e : 2 ^ L = 2 ^ (L - 1) * 2 := by rw [← Nat.pow_succ]; congr 1; omega
      apply Nat.div_eq_of_lt_le
      · omega
      · rw [e] at h2; omega
    omega
  · intro k hk
    have := key k
    have hz : (a ^^^ b) / 2 ^ k = 0 := Nat.div_eq_of_lt (Nat.lt_of_lt_of_le h2 (Nat.pow_le_pow_right (by decide) hk))
    rw [testBit_div, testBit_div, testBit_div, hz] at this
    by_cases h5 : a / 2 ^ k % 2 = 1 <;> by_cases h6 : b / 2 ^ k % 2 = 1 <;> simp [h5, h6] at this <;> omega

theorem cast_bit (a k : Nat) : ((a : Int) / 2 ^ k % 2) = ((a / 2 ^ k % 2 : Nat) : Int) := by
  rw [Int.natCast_emod, Int.natCast_ediv, Int.natCast_pow]
  rfl

theorem byte_bits (zs : List Int) (i t : Nat) (ht : t < 8) : bitAt zs (8 * i + t) = zs.getD i 0 / 2 ^ (7 - t) % 2 := by
  unfold bitAt
  rw [show (8 * i + t) / 8 = i by omega, show (8 * i + t) % 8 = t by omega]

/-- A byte at which the two rows are alike. -/
theorem first_step {zs ys : List Int} {i : Nat} (hb : ∀ j, j < 8 * i → bitAt zs j = bitAt ys j) (he : zs.getD i 0 = ys.getD i 0) : ∀ j, j < 8 * (i + 1) → bitAt zs j = bitAt ys j := by
  intro j hj
  by_cases h : j < 8 * i
  · exact hb j h
  · have e : j = 8 * i + (j - 8 * i) := by omega
    rw [e, byte_bits zs i _ (by omega), byte_bits ys i _ (by omega), he]

/-- A byte at which they differ. -/
theorem first_found {zs ys : List Int} {i n : Nat} (hi : i < n) (hb : ∀ j, j < 8 * i → bitAt zs j = bitAt ys j) (a b : Nat) (ea : zs.getD i 0 = a) (eb : ys.getD i 0 = b) (ha : a < 256) (hb' : b < 256) (hx : a ^^^ b ≠ 0) :
    IsFirst zs ys (8 * n) (8 * (i : Int) + (8 - (Lib.bitLen (a ^^^ b) : Int))) := by
  obtain ⟨h1, h2, h3, h4⟩ := xor_bits a b ha hb' hx
  generalize Lib.bitLen (a ^^^ b) = L at *
  refine Or.inr ⟨8 * i + (8 - L), by omega, by omega, ?_, ?_⟩
  · rw [byte_bits zs i _ (by omega), byte_bits ys i _ (by omega), ea, eb, cast_bit, cast_bit, show 7 - (8 - L) = L - 1 by omega]
    intro h
    exact h3 (by omega)
  · intro j hj
    by_cases h : j < 8 * i
    · exact hb j h
    · have e : j = 8 * i + (j - 8 * i) := by omega
      rw [e, byte_bits zs i _ (by omega), byte_bits ys i _ (by omega), ea, eb, cast_bit, cast_bit, h4 _ (by omega)]

theorem xor_zero {a b : Nat} (h : a ^^^ b = 0) : a = b := by
  apply Nat.eq_of_testBit_eq
  intro i
  have : (a ^^^ b).testBit i = (a.testBit i ^^ b.testBit i) := Nat.testBit_xor ..
  rw [h] at this
  simp at this
  exact this

end Go.Proofs.Ybulkdzxs.PlainC
