/-
  The walks on the road of LawS6318CWhole: closed facts on the interface values, errors.New, the law at each mode.
-/
import Derived.Test.YbulkdzvaProg
import Derived.WalkKit
import Derived.WalkSpells
import Derived.WalkLawsBesides
import Derived.RowKit3
import Derived.LaidEql
import Derived.LaidEqlPtr
namespace Go.Proofs.Ybulkdzva
open Go.RowKit

theorem neq_iface_same {P : Program} {ti tp te : TypeId} {ms : Array (String × TypeId)} {i j : TypeInfo} (hi : P.underlying ti = some (.interface ms)) (hp : P.underlying tp = some (.pointer te)) (hinfo : P.info? tp = some i) (hcomp : i.comparable = true) (hte : P.info? te = some j) (a : Addr) (w : World) :
    (binOp .neq ti (.iface tp (.pointer (some a))) (.iface tp (.pointer (some a)))).run P w = .ok (.bool false) w := by
  simp only [binOp]
  simp [Op.equal, Op.maxDepth, run_equalIn_iface_ptr_same w 9998 a hi hp hinfo hcomp hte]

theorem neq_iface_same' {P : Program} {ti tp te : TypeId} {ms : Array (String × TypeId)} (hi : P.underlying ti = some (.interface ms)) (hp : P.underlying tp = some (.pointer te)) (hinfo : (P.info? tp).map (·.comparable) = some true) (hte : (P.info? te).isSome = true) (a : Addr) (w : World) :
    (binOp .neq ti (.iface tp (.pointer (some a))) (.iface tp (.pointer (some a)))).run P w = .ok (.bool false) w := by
  obtain ⟨i, h1, h2⟩ := Option.map_eq_some_iff.1 hinfo
  obtain ⟨j, h3⟩ := Option.isSome_iff_exists.1 hte
  exact neq_iface_same hi hp h1 h2 h3 a w

theorem eql_iface_same' {P : Program} {ti tp te : TypeId} {ms : Array (String × TypeId)} (hi : P.underlying ti = some (.interface ms)) (hp : P.underlying tp = some (.pointer te)) (hinfo : (P.info? tp).map (·.comparable) = some true) (hte : (P.info? te).isSome = true) (a : Addr) (w : World) :
    (binOp .eql ti (.iface tp (.pointer (some a))) (.iface tp (.pointer (some a)))).run P w = .ok (.bool true) w := by
  obtain ⟨i, h1, h2⟩ := Option.map_eq_some_iff.1 hinfo
  obtain ⟨j, h3⟩ := Option.isSome_iff_exists.1 hte
  exact run_eql_iface_ptr_same w a hi hp h1 h2 h3

theorem neq_ptr_same {P : Program} {tp te : TypeId} (hp : P.underlying tp = some (.pointer te)) (hte : (P.info? te).isSome = true) (a : Addr) (w : World) :
    (binOp .neq tp (.pointer (some a)) (.pointer (some a))).run P w = .ok (.bool false) w := by
  obtain ⟨j, h3⟩ := Option.isSome_iff_exists.1 hte
  have h : ∀ d : Nat, (Op.equalIn (d + 1) tp (.pointer (some a)) (.pointer (some a))).run P w = .ok true w := fun d => by
    simp [Op.equalIn, run_underlying hp, sizeOf, typeInfo, h3, run_sameAddr_same]
  simp only [binOp]
  simp [Op.equal, Op.maxDepth, h 9999]

theorem accept_at (a : Addr) (w : World) : (method 195 30 (.pointer (some a)) "Accept").run Yba.prog w = .ok (21, .pointer (some a)) w := by kernel_rfl
theorem neq32 (a : Addr) (w : World) : (binOp .neq 32 (.iface 30 (.pointer (some a))) (.iface 30 (.pointer (some a)))).run Yba.prog w = .ok (.bool false) w :=
  neq_iface_same' Yba.underlying32 Yba.underlying30 (by kernel_rfl) (by kernel_rfl) a w
theorem neq28 (a : Addr) (w : World) : (binOp .neq 28 (.iface 56 (.pointer (some a))) (.iface 56 (.pointer (some a)))).run Yba.prog w = .ok (.bool false) w :=
  neq_iface_same' Yba.underlying28 Yba.underlying56 (by kernel_rfl) (by kernel_rfl) a w
theorem eql28 (a : Addr) (w : World) : (binOp .eql 28 (.iface 56 (.pointer (some a))) (.iface 56 (.pointer (some a)))).run Yba.prog w = .ok (.bool true) w :=
  eql_iface_same' Yba.underlying28 Yba.underlying56 (by kernel_rfl) (by kernel_rfl) a w
theorem neq24 (a : Addr) (w : World) : (binOp .neq 24 (.iface 22 (.pointer (some a))) (.iface 22 (.pointer (some a)))).run Yba.prog w = .ok (.bool false) w :=
  neq_iface_same' Yba.underlying24 Yba.underlying22 (by kernel_rfl) (by kernel_rfl) a w
theorem neq22 (a : Addr) (w : World) : (binOp .neq 22 (.pointer (some a)) (.pointer (some a))).run Yba.prog w = .ok (.bool false) w :=
  neq_ptr_same Yba.underlying22 (by kernel_rfl) a w
theorem neq49 (w : World) : (binOp .neq 49 (.slice none 0 0) (.slice none 0 0)).run Yba.prog w = .ok (.bool false) w := by kernel_rfl

theorem assert39 (a : Addr) (w : World) : (Instr.typeAssert (.iface 39 (.pointer (some a))) 24 39 true).run Yba.prog w = .ok (.tuple #[.pointer (some a), .bool true]) w := by kernel_rfl

theorem new_any (s : ByteArray) (w : World) : Calls Yba.prog 4 #[.string s] w fun e w' => e = .returned (.iface 56 (.pointer (some ⟨w.heap.size, 0, none⟩))) ∧ w' = w.alloc (.cells #[.string s] 58) := by
  go_enter Yba.func4, Yba.ntmps4
  go_wp2
  go_ret
  exact ⟨rfl, rfl⟩

set_option maxHeartbeats 1000000 in
set_option maxRecDepth 8000 in
theorem walk0 (a0 a1 a2 : Int) (b0 : 0 ≤ a1) (b1 : a1 ≤ 255) (hm : a1 % 3 = 0) (w : World) :
    Calls Yba.prog 3 #[.int .i64 a0, .int .u8 a1, .int .i64 a2] w fun e w' => e = .returned (.bool true) ∧ Grown w w' := by
  have x1 := accept_at
  have x2 := neq32
  have x3 := neq28
  have x4 := eql28
  have x5 := neq24
  have x6 := neq22
  have x7 := neq49
  have x8 := assert39
  go_enter Yba.func3, Yba.ntmps3
  go_wp2_with (first | (go_at_call 4; refine (new_any _ _).mono ?_; rintro e w' ⟨rfl, rfl⟩) | go_in)
  go_ret
  exact ⟨rfl, by repeat (first | exact Grown.refl _ | apply Grown.drew | apply Grown.alloc)⟩

set_option maxHeartbeats 1000000 in
set_option maxRecDepth 8000 in
theorem walk1 (a0 a1 a2 : Int) (b0 : 0 ≤ a1) (b1 : a1 ≤ 255) (hm : a1 % 3 = 1) (w : World) :
    Calls Yba.prog 3 #[.int .i64 a0, .int .u8 a1, .int .i64 a2] w fun e w' => e = .returned (.bool true) ∧ Grown w w' := by
  have x1 := accept_at
  have x2 := neq32
  have x3 := neq28
  have x4 := eql28
  have x5 := neq24
  have x6 := neq22
  have x7 := neq49
  have x8 := assert39
  go_enter Yba.func3, Yba.ntmps3
  go_wp2_with (first | (go_at_call 4; refine (new_any _ _).mono ?_; rintro e w' ⟨rfl, rfl⟩) | go_in)
  go_region
  go_wp2
  go_ret
  exact ⟨rfl, by repeat (first | exact Grown.refl _ | apply Grown.drew | apply Grown.alloc)⟩

set_option maxHeartbeats 1000000 in
set_option maxRecDepth 8000 in
theorem walk2 (a0 a1 a2 : Int) (b0 : 0 ≤ a1) (b1 : a1 ≤ 255) (hm : a1 % 3 = 2) (w : World) :
    Calls Yba.prog 3 #[.int .i64 a0, .int .u8 a1, .int .i64 a2] w fun e w' => e = .returned (.bool true) ∧ Grown w w' := by
  have x1 := accept_at
  have x2 := neq32
  have x3 := neq28
  have x4 := eql28
  have x5 := neq24
  have x6 := neq22
  have x7 := neq49
  have x8 := assert39
  go_enter Yba.func3, Yba.ntmps3
  go_wp2_with (first | (go_at_call 4; refine (new_any _ _).mono ?_; rintro e w' ⟨rfl, rfl⟩) | go_in)
  go_region
  go_wp2
  go_ret
  exact ⟨rfl, by repeat (first | exact Grown.refl _ | apply Grown.drew | apply Grown.alloc)⟩

theorem walkC (a0 a1 a2 : Int) (h : (Lit.int .u8 a1).wf = true) (w : World) :
    Calls Yba.prog 3 #[.int .i64 a0, .int .u8 a1, .int .i64 a2] w fun e w' => e = .returned (.bool true) ∧ Grown w w' := by
  obtain ⟨b0, b1⟩ : 0 ≤ a1 ∧ a1 ≤ 255 := by
    simp [Lit.wf, IntKind.min, IntKind.max, IntKind.signed, IntKind.bits] at h
    omega
  rcases (show a1 % 3 = 0 ∨ a1 % 3 = 1 ∨ a1 % 3 = 2 by omega) with hm | hm | hm
  · exact walk0 a0 a1 a2 b0 b1 hm w
  · exact walk1 a0 a1 a2 b0 b1 hm w
  · exact walk2 a0 a1 a2 b0 b1 hm w

end Go.Proofs.Ybulkdzva
