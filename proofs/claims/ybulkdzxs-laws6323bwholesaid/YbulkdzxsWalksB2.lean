/-
  LawS6323BWhole, walked: nil, empty and other messages; the three ways of Post.
-/
import Derived.Test.YbulkdzxsWalksB
namespace Go.Proofs.Ybulkdzxs
open Go.RowKit PlainA Go.Deep
attribute [local go_sem ↓] Go.wp_at_zero Go.wp_at_succ

theorem neq22 (a : Option Addr) (l c : Nat) (w : World) : (binOp .neq 22 (.slice a l c) (.slice none 0 0)).run Yba.prog w = .ok (.bool (!a.isNone)) w :=
  run_neq_slice_nil_any (P := Yba.prog) w 22 5 a l c 0 0 Yba.underlying22
theorem eql35 (a : Option Addr) (l c : Nat) (w : World) : (binOp .eql 35 (.slice a l c) (.slice none 0 0)).run Yba.prog w = .ok (.bool a.isNone) w :=
  run_eql_slice_nil (P := Yba.prog) w 35 39 a l c Yba.underlying35
theorem neq32 (w : World) : (binOp .neq 32 (.agg #[.string ⟨#[]⟩, .bool false]) (.agg #[.string ⟨#[]⟩, .bool false])).run Yba.prog w = .ok (.bool false) w := by kernel_rfl

theorem bin_alloc {w : World} {p : Option Addr} {n : Nat} {xs : List Int} (h : Lib.BytesIn w p n xs) (o : Obj) : Lib.BytesIn (w.alloc o) p n xs := fun hn => by
  obtain ⟨b, off, rfl, hc⟩ := h hn
  refine ⟨b, off, rfl, fun i hi => ?_⟩
  have := hc i hi
  rw [((Below.refl w.heap.size w).alloc (Nat.le_refl _) o).cell (cell_lt this)]
  exact this
theorem bin_drewN {w : World} {p : Option Addr} {n : Nat} {xs : List Int} (h : Lib.BytesIn w p n xs) (k : Nat) : Lib.BytesIn (w.drewN k) p n xs := h

theorem below_more {w W : World} (h : Below w.heap.size w W) (o : Obj) : Below w.heap.size w (W.alloc o) := h.alloc h.size o

set_option maxHeartbeats 1000000 in
set_option maxRecDepth 4000 in
theorem lawB_nil_other (a0 a1 a2 a5 : Int) (a4 : Bool) (w : World) (hr : (a5 != 1) = true) :
    Calls Yba.prog 4 #[.int .i64 a0, .int .i64 a1, .int .i64 a2, .slice none 0 0, .bool a4, .int .i64 a5] w fun e w' => e = .returned (.bool true) ∧ Below w.heap.size w w' := by
  have x1 := eql22
  have x2 := neq22
  have x3 := eql35
  have x4 := neq32
  have hbq : (Lib.bytesOf [] == Lib.bytesOf []) = true := by simp
  go_enter Yba.func4, Yba.ntmps4
  go_wp2_with fail
  refine (post_other _ _ _ hr).mono ?_
  rintro e w' ⟨rfl, nq, rfl⟩
  go_wp2_with fail
  refine (same_zero none 0 _).mono ?_
  rintro e w' ⟨rfl, nq2, rfl⟩
  go_wp2_with fail
  refine (Yba.bytes_Equal_all _ _ _ _ _ _ [] [] _ rfl rfl ?_ ?_).mono ?_
  · exact Lib.BytesIn.nil _ _ _
  · exact Lib.BytesIn.nil _ _ _
  rw [hbq]
  rintro e w' ⟨rfl, rfl⟩
  go_wp2
  go_ret
  refine ⟨rfl, ?_⟩
  repeat (first | exact Below.refl _ _ | apply below_drewN | apply below_more)

set_option maxHeartbeats 1000000 in
set_option maxRecDepth 4000 in
theorem lawB_nil_not (a0 a1 a2 : Int) (a4 : Bool) (w : World) (hr : (a0 != a1) = true) :
    Calls Yba.prog 4 #[.int .i64 a0, .int .i64 a1, .int .i64 a2, .slice none 0 0, .bool a4, .int .i64 1] w fun e w' => e = .returned (.bool true) ∧ Below w.heap.size w w' := by
  have x1 := eql22
  have x2 := neq22
  have x3 := eql35
  have x4 := neq32
  have hbq : (Lib.bytesOf [] == Lib.bytesOf []) = true := by simp
  go_enter Yba.func4, Yba.ntmps4
  go_wp2_with fail
  refine (post_not _ a0 a1 _ hr ?_ ?_).mono ?_
  · simp [go_sem]
  · simp [go_sem]
  rintro e w' ⟨rfl, nq, rfl⟩
  go_wp2_with fail
  refine (same_zero none 0 _).mono ?_
  rintro e w' ⟨rfl, nq2, rfl⟩
  go_wp2_with fail
  refine (Yba.bytes_Equal_all _ _ _ _ _ _ [] [] _ rfl rfl ?_ ?_).mono ?_
  · exact Lib.BytesIn.nil _ _ _
  · exact Lib.BytesIn.nil _ _ _
  rw [hbq]
  rintro e w' ⟨rfl, rfl⟩
  go_wp2
  go_ret
  refine ⟨rfl, ?_⟩
  repeat (first | exact Below.refl _ _ | apply below_drewN | apply below_more)

set_option maxHeartbeats 1000000 in
set_option maxRecDepth 4000 in
theorem lawB_nil_yes (a0 a2 : Int) (a4 : Bool) (w : World) :
    Calls Yba.prog 4 #[.int .i64 a0, .int .i64 a0, .int .i64 a2, .slice none 0 0, .bool a4, .int .i64 1] w fun e w' => e = .returned (.bool true) ∧ Below w.heap.size w w' := by
  have x1 := eql22
  have x2 := neq22
  have x3 := eql35
  have x4 := neq32
  have hbq : (Lib.bytesOf [] == Lib.bytesOf []) = true := by simp
  go_enter Yba.func4, Yba.ntmps4
  go_wp2_with fail
  refine (post_yes _ a0 none 0 0 (by omega) _ ?_ ?_ ?_).mono ?_
  · simp [go_sem]
  · simp [go_sem]
  · simp [go_sem]
  rintro e w' ⟨rfl, nq, rfl⟩
  go_wp2_with fail
  refine (same_zero none 0 _).mono ?_
  rintro e w' ⟨rfl, nq2, rfl⟩
  go_wp2_with fail
  refine (Yba.bytes_Equal_all _ _ _ _ _ _ [] [] _ rfl rfl ?_ ?_).mono ?_
  · exact Lib.BytesIn.nil _ _ _
  · exact Lib.BytesIn.nil _ _ _
  rw [hbq]
  rintro e w' ⟨rfl, rfl⟩
  go_wp2_with fail
  refine (same_zero none 0 _).mono ?_
  rintro e w' ⟨rfl, nq3, rfl⟩
  go_wp2
  go_ret
  refine ⟨rfl, ?_⟩
  repeat (first | exact Below.refl _ _ | apply below_drewN | apply below_more)

set_option maxHeartbeats 1000000 in
set_option maxRecDepth 4000 in
theorem lawB_empty_other (a0 a1 a2 a5 : Int) (x : Addr) (c : Nat) (a4 : Bool) (w : World) (hr : (a5 != 1) = true) :
    Calls Yba.prog 4 #[.int .i64 a0, .int .i64 a1, .int .i64 a2, .slice (some x) 0 c, .bool a4, .int .i64 a5] w fun e w' => e = .returned (.bool true) ∧ Below w.heap.size w w' := by
  have x1 := eql22
  have x2 := neq22
  have x3 := eql35
  have x4 := neq32
  have hmk : ∀ w : World, (Instr.makeSlice 22 (.int .i64 0) (.int .i64 0)).run Yba.prog w = .ok (.slice (some ⟨w.heap.size, 0, none⟩) 0 0) (w.alloc (.cells (madeCells #[.int .u8 0] 0) 5)) := fun w => make_bytes 0 (by omega) w
  have hcp : ∀ (w : World) (d : Option Addr), (Builtin.copy_ #[22, 22] 3 #[.slice d 0 0, .slice (some x) 0 c]).run Yba.prog w = .ok (.int .i64 0) w := fun w d => run_copy_none (P := Yba.prog) w 22 22 3 5 d (some x) 0 0 0 c Yba.underlying22 (by kernel_rfl) (by simp)
  have hbq : (Lib.bytesOf [] == Lib.bytesOf []) = true := by simp
  go_enter Yba.func4, Yba.ntmps4
  go_wp2_with fail
  refine (post_other _ _ _ hr).mono ?_
  rintro e w' ⟨rfl, nq, rfl⟩
  go_wp2_with fail
  refine (same_zero (some x) c _).mono ?_
  rintro e w' ⟨rfl, nq2, rfl⟩
  go_wp2_with fail
  refine (Yba.bytes_Equal_all _ _ _ _ _ _ [] [] _ rfl rfl ?_ ?_).mono ?_
  · exact Lib.BytesIn.nil _ _ _
  · exact Lib.BytesIn.nil _ _ _
  rw [hbq]
  rintro e w' ⟨rfl, rfl⟩
  go_wp2
  go_ret
  refine ⟨rfl, ?_⟩
  repeat (first | exact Below.refl _ _ | apply below_drewN | apply below_more)

set_option maxHeartbeats 1000000 in
set_option maxRecDepth 4000 in
theorem lawB_empty_not (a0 a1 a2 : Int) (x : Addr) (c : Nat) (a4 : Bool) (w : World) (hr : (a0 != a1) = true) :
    Calls Yba.prog 4 #[.int .i64 a0, .int .i64 a1, .int .i64 a2, .slice (some x) 0 c, .bool a4, .int .i64 1] w fun e w' => e = .returned (.bool true) ∧ Below w.heap.size w w' := by
  have x1 := eql22
  have x2 := neq22
  have x3 := eql35
  have x4 := neq32
  have hmk : ∀ w : World, (Instr.makeSlice 22 (.int .i64 0) (.int .i64 0)).run Yba.prog w = .ok (.slice (some ⟨w.heap.size, 0, none⟩) 0 0) (w.alloc (.cells (madeCells #[.int .u8 0] 0) 5)) := fun w => make_bytes 0 (by omega) w
  have hcp : ∀ (w : World) (d : Option Addr), (Builtin.copy_ #[22, 22] 3 #[.slice d 0 0, .slice (some x) 0 c]).run Yba.prog w = .ok (.int .i64 0) w := fun w d => run_copy_none (P := Yba.prog) w 22 22 3 5 d (some x) 0 0 0 c Yba.underlying22 (by kernel_rfl) (by simp)
  have hbq : (Lib.bytesOf [] == Lib.bytesOf []) = true := by simp
  go_enter Yba.func4, Yba.ntmps4
  go_wp2_with fail
  refine (post_not _ a0 a1 _ hr ?_ ?_).mono ?_
  · simp [go_sem]
  · simp [go_sem]
  rintro e w' ⟨rfl, nq, rfl⟩
  go_wp2_with fail
  refine (same_zero (some x) c _).mono ?_
  rintro e w' ⟨rfl, nq2, rfl⟩
  go_wp2_with fail
  refine (Yba.bytes_Equal_all _ _ _ _ _ _ [] [] _ rfl rfl ?_ ?_).mono ?_
  · exact Lib.BytesIn.nil _ _ _
  · exact Lib.BytesIn.nil _ _ _
  rw [hbq]
  rintro e w' ⟨rfl, rfl⟩
  go_wp2
  go_ret
  refine ⟨rfl, ?_⟩
  repeat (first | exact Below.refl _ _ | apply below_drewN | apply below_more)

set_option maxHeartbeats 1000000 in
set_option maxRecDepth 4000 in
theorem lawB_empty_yes (a0 a2 : Int) (x : Addr) (c : Nat) (a4 : Bool) (w : World) :
    Calls Yba.prog 4 #[.int .i64 a0, .int .i64 a0, .int .i64 a2, .slice (some x) 0 c, .bool a4, .int .i64 1] w fun e w' => e = .returned (.bool true) ∧ Below w.heap.size w w' := by
  have x1 := eql22
  have x2 := neq22
  have x3 := eql35
  have x4 := neq32
  have hmk : ∀ w : World, (Instr.makeSlice 22 (.int .i64 0) (.int .i64 0)).run Yba.prog w = .ok (.slice (some ⟨w.heap.size, 0, none⟩) 0 0) (w.alloc (.cells (madeCells #[.int .u8 0] 0) 5)) := fun w => make_bytes 0 (by omega) w
  have hcp : ∀ (w : World) (d : Option Addr), (Builtin.copy_ #[22, 22] 3 #[.slice d 0 0, .slice (some x) 0 c]).run Yba.prog w = .ok (.int .i64 0) w := fun w d => run_copy_none (P := Yba.prog) w 22 22 3 5 d (some x) 0 0 0 c Yba.underlying22 (by kernel_rfl) (by simp)
  have hbq : (Lib.bytesOf [] == Lib.bytesOf []) = true := by simp
  go_enter Yba.func4, Yba.ntmps4
  go_wp2_with fail
  refine (post_yes _ a0 (some x) 0 c (by omega) _ ?_ ?_ ?_).mono ?_
  · simp [go_sem]
  · simp [go_sem]
  · simp [go_sem]
  rintro e w' ⟨rfl, nq, rfl⟩
  go_wp2_with fail
  refine (same_zero (some x) c _).mono ?_
  rintro e w' ⟨rfl, nq2, rfl⟩
  go_wp2_with fail
  refine (Yba.bytes_Equal_all _ _ _ _ _ _ [] [] _ rfl rfl ?_ ?_).mono ?_
  · exact Lib.BytesIn.nil _ _ _
  · exact Lib.BytesIn.nil _ _ _
  rw [hbq]
  rintro e w' ⟨rfl, rfl⟩
  go_wp2_with fail
  refine (same_zero (some x) c _).mono ?_
  rintro e w' ⟨rfl, nq3, rfl⟩
  go_wp2
  go_ret
  refine ⟨rfl, ?_⟩
  repeat (first | exact Below.refl _ _ | apply below_drewN | apply below_more)

set_option maxHeartbeats 1000000 in
set_option maxRecDepth 4000 in
theorem lawB_some_other (a0 a1 a2 a5 : Int) (g o n c : Nat) (zs : List Int) (a4 : Bool) (w : World) (h0 : 0 < n) (hn : n ≤ 1048576) (hz : zs.length = n) (hcell : ∀ j, j < n → w.cell? ⟨g, o + j, none⟩ = some (.int .u8 (zs.getD j 0))) (hr : (a5 != 1) = true) :
    Calls Yba.prog 4 #[.int .i64 a0, .int .i64 a1, .int .i64 a2, .slice (some ⟨g, o, none⟩) n c, .bool a4, .int .i64 a5] w fun e w' => e = .returned (.bool true) ∧ Below w.heap.size w w' := by
  have x1 := eql22
  have x2 := neq22
  have x3 := eql35
  have x4 := neq32
  have hmk := fun w => make_bytes n hn w
  obtain ⟨w1, hcp, hrow1, hb1, hs1⟩ := copy_of g o n c zs w hz hcell
  have hB := cell_lt (hcell 0 h0)
  have HM : Hid (Lib.BytesIn w1 (some ⟨g, o, none⟩) n zs) := fun _ => ⟨g, o, rfl, fun i hi => by rw [hb1.cell (show g < w.heap.size from hB)]; exact hcell i hi⟩
  have HP : Hid (Lib.BytesIn w1 (some ⟨w.heap.size, 0, none⟩) n zs) := fun _ => ⟨_, 0, rfl, fun i hi => by rw [Nat.zero_add]; exact hrow1.cell hi⟩
  have HB1 := hide hb1
  have HS1 := hide hs1
  have HZ := hide hz
  have h0' : (0 : Int) < n := by omega
  clear hcell hrow1 hb1 hs1 hz
  have hbq : (Lib.bytesOf zs == Lib.bytesOf zs) = true := by simp
  go_enter Yba.func4, Yba.ntmps4
  go_wp2_with fail
  refine (post_other _ _ _ hr).mono ?_
  rintro e w' ⟨rfl, nq, rfl⟩
  go_wp2_with fail
  refine (same_any _ _ _ (fun _ => ⟨g, o, rfl⟩) _).mono ?_
  rintro e w' ⟨rfl, nq2, rfl⟩
  go_wp2_with fail
  refine (Yba.bytes_Equal_all _ _ _ _ _ _ zs zs _ HZ.out HZ.out ?_ ?_).mono ?_
  · repeat (first | exact HM.out | apply bin_drewN | apply bin_alloc)
  · repeat (first | exact HP.out | apply bin_drewN | apply bin_alloc)
  rw [hbq]
  rintro e w' ⟨rfl, rfl⟩
  go_wp2
  go_ret
  refine ⟨rfl, ?_⟩
  repeat (first | exact HB1.out | apply below_drewN | apply below_more)

set_option maxHeartbeats 1000000 in
set_option maxRecDepth 4000 in
theorem lawB_some_not (a0 a1 a2 : Int) (g o n c : Nat) (zs : List Int) (a4 : Bool) (w : World) (h0 : 0 < n) (hn : n ≤ 1048576) (hz : zs.length = n) (hcell : ∀ j, j < n → w.cell? ⟨g, o + j, none⟩ = some (.int .u8 (zs.getD j 0))) (hr : (a0 != a1) = true) :
    Calls Yba.prog 4 #[.int .i64 a0, .int .i64 a1, .int .i64 a2, .slice (some ⟨g, o, none⟩) n c, .bool a4, .int .i64 1] w fun e w' => e = .returned (.bool true) ∧ Below w.heap.size w w' := by
  have x1 := eql22
  have x2 := neq22
  have x3 := eql35
  have x4 := neq32
  have hmk := fun w => make_bytes n hn w
  obtain ⟨w1, hcp, hrow1, hb1, hs1⟩ := copy_of g o n c zs w hz hcell
  have hB := cell_lt (hcell 0 h0)
  have HM : Hid (Lib.BytesIn w1 (some ⟨g, o, none⟩) n zs) := fun _ => ⟨g, o, rfl, fun i hi => by rw [hb1.cell (show g < w.heap.size from hB)]; exact hcell i hi⟩
  have HP : Hid (Lib.BytesIn w1 (some ⟨w.heap.size, 0, none⟩) n zs) := fun _ => ⟨_, 0, rfl, fun i hi => by rw [Nat.zero_add]; exact hrow1.cell hi⟩
  have HB1 := hide hb1
  have HS1 := hide hs1
  have HZ := hide hz
  have h0' : (0 : Int) < n := by omega
  clear hcell hrow1 hb1 hs1 hz
  have hbq : (Lib.bytesOf zs == Lib.bytesOf zs) = true := by simp
  go_enter Yba.func4, Yba.ntmps4
  go_wp2_with fail
  refine (post_not _ a0 a1 _ hr ?_ ?_).mono ?_
  · simp [go_sem]
  · simp [go_sem]
  rintro e w' ⟨rfl, nq, rfl⟩
  go_wp2_with fail
  refine (same_any _ _ _ (fun _ => ⟨g, o, rfl⟩) _).mono ?_
  rintro e w' ⟨rfl, nq2, rfl⟩
  go_wp2_with fail
  refine (Yba.bytes_Equal_all _ _ _ _ _ _ zs zs _ HZ.out HZ.out ?_ ?_).mono ?_
  · repeat (first | exact HM.out | apply bin_drewN | apply bin_alloc)
  · repeat (first | exact HP.out | apply bin_drewN | apply bin_alloc)
  rw [hbq]
  rintro e w' ⟨rfl, rfl⟩
  go_wp2
  go_ret
  refine ⟨rfl, ?_⟩
  repeat (first | exact HB1.out | apply below_drewN | apply below_more)

set_option maxHeartbeats 1000000 in
set_option maxRecDepth 4000 in
theorem lawB_some_yes (a0 a2 : Int) (g o n c : Nat) (zs : List Int) (a4 : Bool) (w : World) (h0 : 0 < n) (hn : n ≤ 1048576) (hz : zs.length = n) (hcell : ∀ j, j < n → w.cell? ⟨g, o + j, none⟩ = some (.int .u8 (zs.getD j 0))) :
    Calls Yba.prog 4 #[.int .i64 a0, .int .i64 a0, .int .i64 a2, .slice (some ⟨g, o, none⟩) n c, .bool a4, .int .i64 1] w fun e w' => e = .returned (.bool true) ∧ Below w.heap.size w w' := by
  have x1 := eql22
  have x2 := neq22
  have x3 := eql35
  have x4 := neq32
  have hmk := fun w => make_bytes n hn w
  obtain ⟨w1, hcp, hrow1, hb1, hs1⟩ := copy_of g o n c zs w hz hcell
  have hB := cell_lt (hcell 0 h0)
  have HM : Hid (Lib.BytesIn w1 (some ⟨g, o, none⟩) n zs) := fun _ => ⟨g, o, rfl, fun i hi => by rw [hb1.cell (show g < w.heap.size from hB)]; exact hcell i hi⟩
  have HP : Hid (Lib.BytesIn w1 (some ⟨w.heap.size, 0, none⟩) n zs) := fun _ => ⟨_, 0, rfl, fun i hi => by rw [Nat.zero_add]; exact hrow1.cell hi⟩
  have HB1 := hide hb1
  have HS1 := hide hs1
  have HZ := hide hz
  have h0' : (0 : Int) < n := by omega
  clear hcell hrow1 hb1 hs1 hz
  have hbq : (Lib.bytesOf zs == Lib.bytesOf zs) = true := by simp
  go_enter Yba.func4, Yba.ntmps4
  go_wp2_with fail
  refine (post_yes _ a0 (some ⟨g, o, none⟩) n c hn _ ?_ ?_ ?_).mono ?_
  · simp [go_sem]
  · simp [go_sem]
  · simp [go_sem]
  rintro e w' ⟨rfl, nq, rfl⟩
  go_wp2_with fail
  refine (same_any _ _ _ (fun _ => ⟨g, o, rfl⟩) _).mono ?_
  rintro e w' ⟨rfl, nq2, rfl⟩
  go_wp2_with fail
  refine (Yba.bytes_Equal_all _ _ _ _ _ _ zs zs _ HZ.out HZ.out ?_ ?_).mono ?_
  · repeat (first | exact HM.out | apply bin_drewN | apply bin_alloc)
  · repeat (first | exact HP.out | apply bin_drewN | apply bin_alloc)
  rw [hbq]
  rintro e w' ⟨rfl, rfl⟩
  go_wp2_with fail
  refine (same_any _ _ _ (fun _ => ⟨g, o, rfl⟩) _).mono ?_
  rintro e w' ⟨rfl, nq3, rfl⟩
  go_wp2
  go_ret
  refine ⟨rfl, ?_⟩
  repeat (first | exact HB1.out | apply below_drewN | apply below_more)

theorem lawB_long (a0 a1 a2 : Int) (a : Option Addr) (n c : Nat) (a4 : Bool) (a5 : Int) (w : World) (h : 1048576 < n) :
    Calls Yba.prog 4 #[.int .i64 a0, .int .i64 a1, .int .i64 a2, .slice a n c, .bool a4, .int .i64 a5] w fun e w' => e = .returned (.bool true) ∧ Below w.heap.size w w' := by
  have h' : (1048576 : Int) < n := by omega
  go_enter Yba.func4, Yba.ntmps4
  go_wp2
  go_ret
  exact ⟨rfl, Below.refl _ _⟩

theorem lawB (a0 a1 a2 : Int) (a : Option Addr) (n c : Nat) (zs : List Int) (a4 : Bool) (a5 : Int) (w : World)
    (h : (a = none ∧ n = 0 ∧ c = 0 ∧ zs = []) ∨ ∃ x, a = some x ∧ n ≤ c ∧ c ≤ maxLen ∧ zs.length = c ∧ (∀ i, i < zs.length → w.cell? (x.add i) = some (.int .u8 (zs.getD i 0))) ∧ ∀ n ∈ zs, (Lit.int .u8 n).wf = true) :
    Calls Yba.prog 4 #[.int .i64 a0, .int .i64 a1, .int .i64 a2, .slice a n c, .bool a4, .int .i64 a5] w fun e w' => e = .returned (.bool true) ∧ Below w.heap.size w w' := by
  by_cases hl : 1048576 < n
  · exact lawB_long a0 a1 a2 a n c a4 a5 w hl
  · rcases h with ⟨rfl, rfl, rfl, rfl⟩ | ⟨x, rfl, hnc, _, hz, hcell, hw⟩
    · by_cases h1 : a5 = 1
      · subst h1
        by_cases h2 : a0 = a1
        · subst h2
          exact lawB_nil_yes a0 a2 a4 w
        · exact lawB_nil_not a0 a1 a2 a4 w (by simp [h2])
      · exact lawB_nil_other a0 a1 a2 a5 a4 w (by simp [h1])
    · by_cases h0 : n = 0
      · subst h0
        by_cases h1 : a5 = 1
        · subst h1
          by_cases h2 : a0 = a1
          · subst h2
            exact lawB_empty_yes a0 a2 x c a4 w
          · exact lawB_empty_not a0 a1 a2 x c a4 w (by simp [h2])
        · exact lawB_empty_other a0 a1 a2 a5 x c a4 w (by simp [h1])
      · obtain ⟨g, o, rfl, hc⟩ := plain_at hcell (by omega)
        have hz' : (zs.take n).length = n := by simp; omega
        have hc' : ∀ j, j < n → w.cell? ⟨g, o + j, none⟩ = some (.int .u8 ((zs.take n).getD j 0)) := by
          intro j hj
          rw [hc j (by omega)]
          simp [List.getD_eq_getElem?_getD, hj]
        by_cases h1 : a5 = 1
        · subst h1
          by_cases h2 : a0 = a1
          · subst h2
            exact lawB_some_yes a0 a2 g o n c (zs.take n) a4 w (by omega) (by omega) hz' hc'
          · exact lawB_some_not a0 a1 a2 g o n c (zs.take n) a4 w (by omega) (by omega) hz' hc' (by simp [h2])
        · exact lawB_some_other a0 a1 a2 a5 g o n c (zs.take n) a4 w (by omega) (by omega) hz' hc' (by simp [h1])

end Go.Proofs.Ybulkdzxs
