/-
  The plain mathematics for LawS6323AWhole: the number that eight bytes of a row spell. No Go text in sight.
-/
import Derived.Lib.EndianZ
import Derived.Laws.Bits64b
namespace Go.Proofs.Ybulkdzxs.PlainA

/-- The number that the eight bytes from 'at' on spell, the greatest first. -/
def word (zs : List Int) (k : Nat) : Int := Lib.beZ ((zs.drop k).take 8)

/-- The number that the first j of them spell. -/
def wpart (zs : List Int) (k j : Nat) : Int := Lib.beZ ((zs.drop k).take j)

theorem beFromZ_snoc : ∀ (l : List Int) (acc z : Int), Lib.beFromZ acc (l ++ [z]) = Lib.beFromZ acc l * 256 + z
  | [], _, _ => rfl
  | y :: r, acc, z => beFromZ_snoc r (acc * 256 + y) z

theorem part_zero (zs : List Int) (k : Nat) : wpart zs k 0 = 0 := by simp [wpart, Lib.beZ, Lib.beFromZ]
theorem part_word (zs : List Int) (k : Nat) : wpart zs k 8 = word zs k := rfl

theorem part_succ (zs : List Int) (k j : Nat) (h : k + j < zs.length) : wpart zs k (j + 1) = wpart zs k j * 256 + zs.getD (k + j) 0 := by
  unfold wpart Lib.beZ
  rw [List.take_succ_eq_append_getElem (by simp; omega), beFromZ_snoc]
  congr 1
  simp [List.getD_eq_getElem?_getD, h]

theorem part_bound (zs : List Int) (k : Nat) (hw : ∀ i, 0 ≤ zs.getD i 0 ∧ zs.getD i 0 ≤ 255) : ∀ j, k + j ≤ zs.length → 0 ≤ wpart zs k j ∧ wpart zs k j < 256 ^ j
  | 0, _ => by rw [part_zero]; decide
  | j + 1, h => by
    obtain ⟨a, b⟩ := part_bound zs k hw j (by omega)
    obtain ⟨c, d⟩ := hw (k + j)
    rw [part_succ zs k j (by omega), Int.pow_succ]
    omega

theorem part_small (zs : List Int) (k j : Nat) (hw : ∀ i, 0 ≤ zs.getD i 0 ∧ zs.getD i 0 ≤ 255) (h : k + j ≤ zs.length) (hj : j ≤ 7) : 0 ≤ wpart zs k j ∧ wpart zs k j < 72057594037927936 := by
  obtain ⟨a, b⟩ := part_bound zs k hw j h
  refine ⟨a, ?_⟩
  have h1 : 256 ^ j ≤ 256 ^ 7 := Nat.pow_le_pow_right (by decide) hj
  have h2 : ((256 ^ j : Nat) : Int) ≤ ((256 ^ 7 : Nat) : Int) := Int.ofNat_le.2 h1
  rw [Int.natCast_pow] at h2
  have e : (((256 : Nat) : Int)) ^ j = (256 : Int) ^ j := rfl
  rw [e] at h2
  omega

theorem or_byte (a b : Int) (a0 : 0 ≤ a) (a1 : a < 72057594037927936) (b0 : 0 ≤ b) (b1 : b ≤ 255) : bits .or .u64 (a * 256) b = a * 256 + b := by
  obtain ⟨a, rfl⟩ := Int.eq_ofNat_of_zero_le a0
  obtain ⟨b, rfl⟩ := Int.eq_ofNat_of_zero_le b0
  have e : (a : Int) * 256 = ((a * 2 ^ 8 : Nat) : Int) := by omega
  rw [e, bits_or_u64_nat _ _ (by omega) (by omega), ← Nat.shiftLeft_eq, ← Nat.shiftLeft_add_eq_or_of_lt (by omega)]
  simp

end Go.Proofs.Ybulkdzxs.PlainA
