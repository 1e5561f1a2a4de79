/-
  The zero values of the three great arrays, behind names: what each cell of them is.
-/
import Derived.Test.YbulkdzvoProg
import Derived.KernelRfl
import Derived.WalkKit
namespace Go.Proofs.Ybulkdzvo

def cellsOfZero (t : TypeInfo) : Array Value := match t.zero with
  | some (.agg c) => c
  | _ => #[]

def isU8 : Value → Bool
  | .int .u8 0 => true
  | _ => false
def isU64 : Value → Bool
  | .int .u64 0 => true
  | _ => false
def isF : Value → Bool
  | .bool false => true
  | _ => false

/-- The first a cells meet p, the b behind them q, and there are no more. -/
def chk (p q : Value → Bool) : List Value → Nat → Nat → Bool
  | [], 0, 0 => true
  | v :: vs, a + 1, b => p v && chk p q vs a b
  | v :: vs, 0, b + 1 => q v && chk p q vs 0 b
  | _, _, _ => false

theorem chk_get (p q : Value → Bool) : ∀ (l : List Value) (a b : Nat), chk p q l a b = true → l.length = a + b ∧ (∀ i, i < a → ∃ v, l[i]? = some v ∧ p v = true) ∧ (∀ i, a ≤ i → i < a + b → ∃ v, l[i]? = some v ∧ q v = true)
  | [], 0, 0, _ => ⟨rfl, fun i h => by omega, fun i h h' => by omega⟩
  | [], 0, _ + 1, h => by simp [chk] at h
  | [], _ + 1, _, h => by simp [chk] at h
  | v :: vs, a + 1, b, h => by
    simp only [chk, Bool.and_eq_true] at h
    obtain ⟨h1, h2, h3⟩ := chk_get p q vs a b h.2
    refine ⟨by simp; omega, fun i hi => ?_, fun i hi hi' => ?_⟩
    · cases i with
      | zero => exact ⟨v, rfl, h.1⟩
      | succ i => simpa using h2 i (by omega)
    · cases i with
      | zero => omega
      | succ i => simpa using h3 i (by omega) (by omega)
  | v :: vs, 0, b + 1, h => by
    simp only [chk, Bool.and_eq_true] at h
    obtain ⟨h1, h2, h3⟩ := chk_get p q vs 0 b h.2
    refine ⟨by simp; omega, fun i hi => by omega, fun i hi hi' => ?_⟩
    cases i with
    | zero => exact ⟨v, rfl, h.1⟩
    | succ i => simpa using h3 i (by omega) (by omega)
  | v :: vs, 0, 0, h => by simp [chk] at h

theorem bytes_chk : chk isU8 isU8 (cellsOfZero Yba.t35).toList 65536 0 = true := by kernel_rfl
theorem bools_chk : chk isF isF (cellsOfZero Yba.t42).toList 65536 0 = true := by kernel_rfl
theorem stage_chk : chk isU8 isU64 (cellsOfZero Yba.t39).toList 65536 1024 = true := by kernel_rfl

theorem of_isU8 {v : Value} (h : isU8 v = true) : v = .int .u8 0 := by
  unfold isU8 at h
  split at h
  · rfl
  · cases h
theorem of_isU64 {v : Value} (h : isU64 v = true) : v = .int .u64 0 := by
  unfold isU64 at h
  split at h
  · rfl
  · cases h
theorem of_isF {v : Value} (h : isF v = true) : v = .bool false := by
  unfold isF at h
  split at h
  · rfl
  · cases h

theorem run_zero {P : Program} {t : TypeId} {i : TypeInfo} {c : Array Value} (h : P.info? t = some i) (hz : i.zero = some (.agg c)) (w : World) : (zeroValue t).run P w = .ok (.agg c) w := by
  simp [zeroValue, typeInfo, h, hz]

theorem zero_of (t : TypeInfo) (h : (match t.zero with | some (.agg _) => true | _ => false) = true) : t.zero = some (.agg (cellsOfZero t)) := by
  unfold cellsOfZero
  split at h
  · rename_i c hc
    rw [hc]
  · cases h

/-- The zero value of the type 'stage'. -/
theorem stage_zero : ∃ Z : Array Value, (∀ w, (zeroValue 39).run Yba.prog w = .ok (.agg Z) w) ∧ Z.size = 66560 ∧ (∀ i, i < 65536 → Z[i]? = some (.int .u8 0)) ∧ ∀ i, 65536 ≤ i → i < 66560 → Z[i]? = some (.int .u64 0) := by
  obtain ⟨h1, h2, h3⟩ := chk_get _ _ _ _ _ stage_chk
  refine ⟨cellsOfZero Yba.t39, fun w => run_zero (by kernel_rfl) (zero_of Yba.t39 (by kernel_rfl)) w, by simpa using h1, fun i hi => ?_, fun i hi hi' => ?_⟩
  · obtain ⟨v, hv, hp⟩ := h2 i hi
    rw [← Array.getElem?_toList, hv, of_isU8 hp]
  · obtain ⟨v, hv, hp⟩ := h3 i hi (by omega)
    rw [← Array.getElem?_toList, hv, of_isU64 hp]

/-- The zero value of the type '[65536]bool'. -/
theorem bools_zero : ∃ Z : Array Value, (∀ w, (zeroValue 42).run Yba.prog w = .ok (.agg Z) w) ∧ Z.size = 65536 ∧ ∀ i, i < 65536 → Z[i]? = some (.bool false) := by
  obtain ⟨h1, h2, _⟩ := chk_get _ _ _ _ _ bools_chk
  refine ⟨cellsOfZero Yba.t42, fun w => run_zero (by kernel_rfl) (zero_of Yba.t42 (by kernel_rfl)) w, by simpa using h1, fun i hi => ?_⟩
  obtain ⟨v, hv, hp⟩ := h2 i hi
  rw [← Array.getElem?_toList, hv, of_isF hp]

/-- The zero value of the type '[65536]uint8'. -/
theorem bytes_zero : ∃ Z : Array Value, (∀ w, (zeroValue 35).run Yba.prog w = .ok (.agg Z) w) ∧ Z.size = 65536 ∧ ∀ i, i < 65536 → Z[i]? = some (.int .u8 0) := by
  obtain ⟨h1, h2, _⟩ := chk_get _ _ _ _ _ bytes_chk
  refine ⟨cellsOfZero Yba.t35, fun w => run_zero (by kernel_rfl) (zero_of Yba.t35 (by kernel_rfl)) w, by simpa using h1, fun i hi => ?_⟩
  obtain ⟨v, hv, hp⟩ := h2 i hi
  rw [← Array.getElem?_toList, hv, of_isU8 hp]

end Go.Proofs.Ybulkdzvo
