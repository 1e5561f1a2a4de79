/-
  The walks on the road of LawS6317AWhole: slices.Index at one element, the kind that is drawn, the law itself.
-/
import Derived.Test.YbulkdzumProg
import Derived.WalkKit
import Derived.WalkSpells
import Derived.WalkLawsBesides
import Derived.RowKit3
namespace Go.Proofs.Ybulkdzum
open Go.RowKit

theorem index_hit (b : Nat) (k : ByteArray) (w : World) (hc : w.cell? ⟨b, 0, none⟩ = some (.string ⟨#[112, 97, 99, 101, 114]⟩)) (h : (k.toList == [112, 97, 99, 101, 114]) = true) :
    Calls Yba.prog 30 #[.slice (some ⟨b, 0, none⟩) 1 1, .string k] w fun e w' => e = .returned (.int .i64 0) ∧ w' = w := by
  go_enter Yba.func30, Yba.ntmps30
  go_wp2
  refine wp_loop_rounds 1 ?_
  rw [rounds_succ]
  go_wp2
  go_ret
  exact ⟨rfl, rfl⟩

theorem index_miss (b : Nat) (k : ByteArray) (w : World) (hc : w.cell? ⟨b, 0, none⟩ = some (.string ⟨#[112, 97, 99, 101, 114]⟩)) (h : (k.toList == [112, 97, 99, 101, 114]) = false) :
    Calls Yba.prog 30 #[.slice (some ⟨b, 0, none⟩) 1 1, .string k] w fun e w' => e = .returned (.int .i64 (-1)) ∧ w' = w := by
  go_enter Yba.func30, Yba.ntmps30
  go_wp2
  refine wp_loop_rounds 2 ?_
  rw [rounds_succ]
  go_wp2
  rw [rounds_succ]
  go_wp2
  go_ret
  exact ⟨rfl, rfl⟩

theorem kind_any (a : Int) (s : ByteArray) (w : World) :
    Calls Yba.prog 6 #[.int .u8 a, .string s] w fun e w' => ∃ k, e = .returned (.string k) ∧ w' = w := by
  go_enter Yba.func6, Yba.ntmps6
  go_wp2
  all_goals go_ret; exact ⟨_, rfl, rfl⟩

theorem opt_nil (fn : Fn) (fi ca : Array Value) (w : World) : (binOp .eql 30 (.func fn fi ca) .nilFunc).run Yba.prog w = .ok (.bool false) w := by kernel_rfl

set_option maxHeartbeats 1000000 in
set_option maxRecDepth 4000 in
theorem walkA (a0 : Int) (a1 : Int) (a2 : ByteArray) (a3 : ByteArray) (a4 : Int) (a5 : Int) (a6 : Int) (a7 : Bool) (a8 : Int) (w : World) :
    Calls Yba.prog 3 #[.int .i64 a0, .int .u8 a1, .string a2, .string a3, .int .i64 a4, .int .i64 a5, .int .i64 a6, .bool a7, .int .i64 a8] w fun e w' => e = .returned (.bool true) ∧ Grown w w' := by
  have hon := opt_nil
  go_enter Yba.func3, Yba.ntmps3
  go_wp2_with (go_at_call 6; refine (kind_any _ _ _).mono ?_; rintro e w' ⟨k, rfl, rfl⟩)
  rcases Bool.eq_false_or_eq_true (a3.toList.isEmpty) with hm | hm <;> rcases Bool.eq_false_or_eq_true (k.toList == [112, 97, 99, 101, 114]) with hk | hk
  · go_wp2_with (first | (go_at_call 30; refine (index_hit _ _ _ (by simp [go_sem]) hk).mono ?_; rintro e w' ⟨rfl, rfl⟩) | go_in)
    go_end0
    go_wp2
    go_end0
    go_wp2
    go_ret
    exact ⟨rfl, by repeat (first | exact Grown.refl _ | apply Grown.drew | apply Grown.alloc)⟩
  · go_wp2_with (first | (go_at_call 30; refine (index_miss _ _ _ (by simp [go_sem]) hk).mono ?_; rintro e w' ⟨rfl, rfl⟩) | go_in)
    go_end0
    go_wp2
    go_end0
    go_wp2
    go_ret
    exact ⟨rfl, by repeat (first | exact Grown.refl _ | apply Grown.drew | apply Grown.alloc)⟩
  · go_wp2_with (first | (go_at_call 30; refine (index_hit _ _ _ (by simp [go_sem]) hk).mono ?_; rintro e w' ⟨rfl, rfl⟩) | go_in)
    go_end0
    go_wp2
    go_end0
    go_wp2
    go_ret
    exact ⟨rfl, by repeat (first | exact Grown.refl _ | apply Grown.drew | apply Grown.alloc)⟩
  · go_wp2_with (first | (go_at_call 30; refine (index_miss _ _ _ (by simp [go_sem]) hk).mono ?_; rintro e w' ⟨rfl, rfl⟩) | go_in)
    go_end0
    go_wp2
    go_end0
    go_wp2
    go_ret
    exact ⟨rfl, by repeat (first | exact Grown.refl _ | apply Grown.drew | apply Grown.alloc)⟩

end Go.Proofs.Ybulkdzum
