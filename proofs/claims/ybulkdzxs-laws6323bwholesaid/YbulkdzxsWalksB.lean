/-
  zzs6323bsame and (*party).Post, walked.
-/
import Derived.Test.YbulkdzxsWalksA2
import Derived.LaidEqlPtr
namespace Go.Proofs.Ybulkdzxs
open Go.RowKit PlainA Go.Deep
attribute [local go_sem ↓] Go.wp_at_zero Go.wp_at_succ

theorem neq_ptr_same {P : Program} {tp te : TypeId} (hp : P.underlying tp = some (.pointer te)) (hte : (P.info? te).isSome = true) (a : Addr) (w : World) :
    (binOp .neq tp (.pointer (some a)) (.pointer (some a))).run P w = .ok (.bool false) w := by
  obtain ⟨j, h3⟩ := Option.isSome_iff_exists.1 hte
  have h : ∀ d : Nat, (Op.equalIn (d + 1) tp (.pointer (some a)) (.pointer (some a))).run P w = .ok true w := fun d => by
    simp [Op.equalIn, run_underlying hp, sizeOf, typeInfo, h3, run_sameAddr_same]
  simp only [binOp]
  simp [Op.equal, Op.maxDepth, h 9999]

theorem eql22 (a : Option Addr) (l c : Nat) (w : World) : (binOp .eql 22 (.slice a l c) (.slice none 0 0)).run Yba.prog w = .ok (.bool a.isNone) w :=
  run_eql_slice_nil (P := Yba.prog) w 22 5 a l c Yba.underlying22
theorem neq50 (a : Addr) (w : World) : (binOp .neq 50 (.pointer (some a)) (.pointer (some a))).run Yba.prog w = .ok (.bool false) w :=
  neq_ptr_same Yba.underlying50 (by kernel_rfl) a w

/-- zzs6323bsame of a slice and itself, no element. -/
theorem same_zero (a : Option Addr) (c : Nat) (w : World) :
    Calls Yba.prog 9 #[.slice a 0 c, .slice a 0 c] w fun e w' => e = .returned (.bool true) ∧ ∃ nq, w' = w.drewN nq := by
  have x1 := eql22
  go_enter Yba.func9, Yba.ntmps9
  go_wp2
  go_quiet (fail)
  go_wp2
  go_ret
  exact ⟨rfl, _, rfl⟩

theorem same_some (g o n c : Nat) (h : 0 < n) (w : World) :
    Calls Yba.prog 9 #[.slice (some ⟨g, o, none⟩) n c, .slice (some ⟨g, o, none⟩) n c] w fun e w' => e = .returned (.bool true) ∧ ∃ nq, w' = w.drewN nq := by
  have x1 := eql22
  have x2 := neq50
  have h' : (0 : Int) < n := by omega
  go_enter Yba.func9, Yba.ntmps9
  go_wp2
  go_quiet (fail)
  go_wp2
  go_ret
  exact ⟨rfl, _, rfl⟩

theorem same_any (a : Option Addr) (n c : Nat) (h : 0 < n → ∃ g o, a = some ⟨g, o, none⟩) (w : World) :
    Calls Yba.prog 9 #[.slice a n c, .slice a n c] w fun e w' => e = .returned (.bool true) ∧ ∃ nq, w' = w.drewN nq := by
  by_cases h0 : 0 < n
  · obtain ⟨g, o, rfl⟩ := h h0
    exact same_some g o n c h0 w
  · obtain rfl : n = 0 := by omega
    exact same_zero a c w

theorem post_other (P : Nat) (r : Int) (w : World) (h : (r != 1) = true) :
    Calls Yba.prog 8 #[.pointer (some ⟨P, 0, none⟩), .int .i64 r] w fun e w' => e = .returned (.slice none 0 0) ∧ ∃ nq, w' = w.drewN nq := by
  go_enter Yba.func8, Yba.ntmps8
  go_wp2
  go_quiet (fail)
  go_wp2
  go_ret
  exact ⟨rfl, _, rfl⟩

theorem post_not (P : Nat) (self sender : Int) (w : World) (h : (self != sender) = true) (c0 : w.cell? ⟨P, 0, none⟩ = some (.int .i64 self)) (c1 : w.cell? ⟨P, 1, none⟩ = some (.int .i64 sender)) :
    Calls Yba.prog 8 #[.pointer (some ⟨P, 0, none⟩), .int .i64 1] w fun e w' => e = .returned (.slice none 0 0) ∧ ∃ nq, w' = w.drewN nq := by
  go_enter Yba.func8, Yba.ntmps8
  go_wp2
  go_quiet (fail)
  go_wp2
  go_ret
  exact ⟨rfl, _, rfl⟩

theorem post_yes (P : Nat) (self : Int) (a : Option Addr) (n c : Nat) (hn : n ≤ 1048576) (w : World) (c0 : w.cell? ⟨P, 0, none⟩ = some (.int .i64 self)) (c1 : w.cell? ⟨P, 1, none⟩ = some (.int .i64 self)) (c3 : w.cell? ⟨P, 3, none⟩ = some (.slice a n c)) :
    Calls Yba.prog 8 #[.pointer (some ⟨P, 0, none⟩), .int .i64 1] w fun e w' => e = .returned (.slice (some ⟨w.heap.size, 0, none⟩) 1 1) ∧
      ∃ nq, w' = (w.alloc (.cells #[.int .i64 0, .int .i64 (8 * (n : Int)), .slice a n c, .bool true] 39)).drewN nq := by
  go_enter Yba.func8, Yba.ntmps8
  go_wp2
  go_quiet (fail)
  go_wp2
  go_region
  go_wp2
  go_ret
  exact ⟨rfl, _, rfl⟩

end Go.Proofs.Ybulkdzxs
