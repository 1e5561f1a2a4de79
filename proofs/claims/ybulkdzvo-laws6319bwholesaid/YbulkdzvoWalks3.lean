/-
  The first loop's row; what the set bears.
-/
import Derived.Test.YbulkdzvoWalks2
import Derived.WalkSmall
import Derived.ChangeKeysEq
import Derived.Lib.Builder
import Derived.Deep.CutBlock
namespace Go.Proofs.Ybulkdzvo
open Go.RowKit PlainB Go.Deep
attribute [local go_sem ↓] Go.wp_at_zero Go.wp_at_succ

theorem row_six {w : World} {B t n : Nat} {f : Nat → Value} (h : w.rowIs B t (n * 6) f) (k : Nat) (hk : k < n) :
    w.cell? ⟨B, k * 6, none⟩ = some (f (k * 6)) ∧ w.cell? ⟨B, k * 6 + 1, none⟩ = some (f (k * 6 + 1)) ∧ w.cell? ⟨B, k * 6 + 2, none⟩ = some (f (k * 6 + 2)) ∧ w.cell? ⟨B, k * 6 + 3, none⟩ = some (f (k * 6 + 3)) ∧ w.cell? ⟨B, k * 6 + 4, none⟩ = some (f (k * 6 + 4)) ∧ w.cell? ⟨B, k * 6 + 5, none⟩ = some (f (k * 6 + 5)) :=
  ⟨h.cell (by omega), h.cell (by omega), h.cell (by omega), h.cell (by omega), h.cell (by omega), h.cell (by omega)⟩
theorem row_six_frozen {w : World} {B t n : Nat} {f : Nat → Value} (h : w.rowIs B t n f) (k : Nat) :
    w.frozen? ⟨B, k * 6, none⟩ = false ∧ w.frozen? ⟨B, k * 6 + 1, none⟩ = false ∧ w.frozen? ⟨B, k * 6 + 2, none⟩ = false ∧ w.frozen? ⟨B, k * 6 + 3, none⟩ = false ∧ w.frozen? ⟨B, k * 6 + 4, none⟩ = false ∧ w.frozen? ⟨B, k * 6 + 5, none⟩ = false :=
  ⟨h.frozen _, h.frozen _, h.frozen _, h.frozen _, h.frozen _, h.frozen _⟩

theorem keep_one {w : World} {A g k x : Nat} {v u : Value} (hne : g ≠ A) (h : w.cell? ⟨g, x, none⟩ = some v) : (w.setCell ⟨A, k, none⟩ u).cell? ⟨g, x, none⟩ = some v :=
  (World.cell?_of_block (blk_setCell_other w ⟨A, k, none⟩ u g hne)).trans h
theorem keep_drew {w : World} {a : Addr} {v : Value} (h : w.cell? a = some v) : w.drew.cell? a = some v := h
theorem keep_six {w : World} {A g k x : Nat} {v : Value} {u0 u1 u2 u3 u4 u5 : Value} (hne : g ≠ A) (h : w.cell? ⟨g, x, none⟩ = some v) :
    ((((((w.setCell ⟨A, k, none⟩ u0).setCell ⟨A, k + 1, none⟩ u1).setCell ⟨A, k + 2, none⟩ u2).setCell ⟨A, k + 3, none⟩ u3).setCell ⟨A, k + 4, none⟩ u4).setCell ⟨A, k + 5, none⟩ u5).drew.cell? ⟨g, x, none⟩ = some v :=
  keep_drew (keep_one hne (keep_one hne (keep_one hne (keep_one hne (keep_one hne (keep_one hne h))))))

theorem six_below {w w' : World} {A k n : Nat} {u0 u1 u2 u3 u4 u5 : Value} (h : Below A w w') :
    Below A w (((((((w'.setCell ⟨A, k, none⟩ u0).setCell ⟨A, k + 1, none⟩ u1).setCell ⟨A, k + 2, none⟩ u2).setCell ⟨A, k + 3, none⟩ u3).setCell ⟨A, k + 4, none⟩ u4).setCell ⟨A, k + 5, none⟩ u5).drewN n) := by
  have l : ∀ j, A ≤ (⟨A, j, none⟩ : Addr).block := fun _ => Nat.le_refl _
  exact below_drewN ((((((h.setCell (l _) u0).setCell (l _) u1).setCell (l _) u2).setCell (l _) u3).setCell (l _) u4).setCell (l _) u5) n

theorem row_step {w : World} {A n : Nat} {L C : Nat → Int} {ad : Nat → Nat} {D0 D1 : Nat → Int} {cn : Nat → Nat} {k : Nat} (h : w.rowIs A 33 n (frow L C ad D0 D1 cn k)) :
    ((((((w.setCell ⟨A, k * 6, none⟩ (.int .i64 (L k))).setCell ⟨A, k * 6 + 1, none⟩ (.int .i64 (C k))).setCell ⟨A, k * 6 + 2, none⟩ (.int .u32 (ad k))).setCell ⟨A, k * 6 + 3, none⟩ (.int .u8 (D0 k))).setCell ⟨A, k * 6 + 4, none⟩ (.int .u8 (D1 k))).setCell ⟨A, k * 6 + 5, none⟩ (.int .i64 (cn k))).rowIs A 33 n (frow L C ad D0 D1 cn (k + 1)) := by
  obtain ⟨e0, e1, e2, e3, e4, e5⟩ := fcell_at L C ad D0 D1 cn k
  refine ((((((h.set _ _).set _ _).set _ _).set _ _).set _ _).set _ _).congr fun j hj => ?_
  by_cases c0 : j = k * 6
  · subst c0; simp [frow, e0]; omega
  by_cases c1 : j = k * 6 + 1
  · subst c1; simp [frow, e1]; omega
  by_cases c2 : j = k * 6 + 2
  · subst c2; simp [frow, e2]; omega
  by_cases c3 : j = k * 6 + 3
  · subst c3; simp [frow, e3]; omega
  by_cases c4 : j = k * 6 + 4
  · subst c4; simp [frow, e4]; omega
  by_cases c5 : j = k * 6 + 5
  · subst c5; simp [frow, e5]; omega
  rw [if_neg c5, if_neg c4, if_neg c3, if_neg c2, if_neg c1, if_neg c0]
  unfold frow
  by_cases hl : j < 6 * k
  · rw [if_pos hl, if_pos (by omega)]
  · rw [if_neg hl, if_neg (by omega)]

/-- The set's plain data. -/
def OneIn (w : World) (a : Option Addr) (n : Nat) (f : Nat → Value) : Prop := 0 < n → ∃ g o, a = some ⟨g, o, none⟩ ∧ ∀ i, i < n → w.cell? ⟨g, o + i, none⟩ = some (f i)

def inS (x : Nat → Nat) (k j : Nat) : Bool := (List.range k).any fun i => j == x i
theorem inS_zero (x : Nat → Nat) (j : Nat) : inS x 0 j = false := rfl
theorem inS_succ (x : Nat → Nat) (k j : Nat) : inS x (k + 1) j = (inS x k j || j == x k) := by
  unfold inS
  rw [List.range_succ, List.any_append]
  simp

def dv (j : Nat) : Int := bits .xor .u8 ((j : Int) % 256) 90
def dat (x : Nat → Nat) (k j : Nat) : Int := if inS x k j then dv j else 0
theorem dat_zero (x : Nat → Nat) (j : Nat) : dat x 0 j = 0 := rfl
theorem dat_succ (x : Nat → Nat) (k j : Nat) : dat x (k + 1) j = if j = x k then dv (x k) else dat x k j := by
  unfold dat
  rw [inS_succ]
  by_cases h : j = x k
  · subst h; simp
  · simp [h]

theorem alloc_stage : ∃ Z : Array Value, (∀ w, (zeroValue 39).run Yba.prog w = .ok (.agg Z) w) ∧ ∀ w : World, (w.alloc (.cells Z 39)).rowIs w.heap.size 39 66560 (stCell (fun _ => 0) (fun _ => 0)) := by
  obtain ⟨Z, h1, h2, h3, h4⟩ := stage_zero
  refine ⟨Z, h1, fun w => ⟨_, blk_alloc_new _ _, h2, fun i hi => ?_⟩⟩
  unfold stCell
  by_cases h : i < 65536
  · rw [if_pos h, h3 i h]
  · rw [if_neg h, h4 i (by omega) hi]; rfl

theorem alloc_bools : ∃ Z : Array Value, (∀ w, (zeroValue 42).run Yba.prog w = .ok (.agg Z) w) ∧ ∀ w : World, (w.alloc (.cells Z 42)).rowIs w.heap.size 42 65536 (fun _ => .bool false) := by
  obtain ⟨Z, h1, h2, h3⟩ := bools_zero
  exact ⟨Z, h1, fun w => ⟨_, blk_alloc_new _ _, h2, h3⟩⟩

theorem alloc_bytes : ∃ Z : Array Value, (∀ w, (zeroValue 35).run Yba.prog w = .ok (.agg Z) w) ∧ ∀ w : World, (w.alloc (.cells Z 35)).rowIs w.heap.size 35 65536 (fun _ => .int .u8 0) := by
  obtain ⟨Z, h1, h2, h3⟩ := bytes_zero
  exact ⟨Z, h1, fun w => ⟨_, blk_alloc_new _ _, h2, h3⟩⟩

theorem below_le {B B' : Nat} {w w' : World} (h : Below B w w') (hb : B' ≤ B) : Below B' w w' := ⟨h.os, h.tape, h.output, h.size, fun k hk => h.block k (by omega)⟩

theorem set_word (x b : Nat) (hx : x < 18446744073709551616) (hb : b < 64) : bits .or .u64 (x : Int) (IntKind.u64.wrap (2 ^ b)) = ((x ||| 2 ^ b : Nat) : Int) := by
  have hp : 2 ^ b < 2 ^ 64 := Nat.pow_lt_pow_right (by decide) hb
  have e : IntKind.u64.wrap ((2 : Int) ^ b) = ((2 ^ b : Nat) : Int) := by
    have e1 : (2 : Int) ^ b = ((2 ^ b : Nat) : Int) := by simp
    rw [IntKind.wrap_u64, e1]
    generalize (2 ^ b : Nat) = p at hp ⊢
    omega
  rw [e, bits_or_u64_nat _ _ hx (by omega)]

theorem row_data {w : World} {S t : Nat} {d : Nat → Int} {m : Nat → Nat} (h : w.rowIs S t 66560 (stCell d m)) (j : Nat) (hj : j < 65536) (v : Int) :
    (w.setCell ⟨S, j, none⟩ (.int .u8 v)).rowIs S t 66560 (stCell (fun i => if i = j then v else d i) m) := by
  refine (h.set _ _).congr fun i _ => ?_
  unfold stCell
  by_cases h1 : i = j
  · subst h1
    simp [hj]
  · simp [h1]

theorem stage_step {w : World} {S : Nat} {x : Nat → Nat} {k : Nat} {m : Nat → Nat} (h : w.rowIs S 39 66560 (stCell (dat x k) m)) (hxk : x k < 65536) (q v : Nat) :
    ((w.setCell ⟨S, 65536 + q, none⟩ (.int .u64 (v : Int))).setCell ⟨S, x k, none⟩ (.int .u8 (bits .xor .u8 ((x k : Int) % 256) 90))).drew.rowIs S 39 66560 (stCell (dat x (k + 1)) (upd m q v)) := by
  refine (row_data (row_word h q v) (x k) hxk (dv (x k))).drew.congr fun j _ => ?_
  have e : (fun i => if i = x k then dv (x k) else dat x k i) = dat x (k + 1) := funext fun i => (dat_succ x k i).symm
  rw [e]

theorem two_below {w w' : World} {S j k : Nat} {u v : Value} (h : Below S w w') : Below S w ((w'.setCell ⟨S, j, none⟩ u).setCell ⟨S, k, none⟩ v).drew :=
  ((h.setCell (p := ⟨S, j, none⟩) (Nat.le_refl _) u).setCell (p := ⟨S, k, none⟩) (Nat.le_refl _) v).drew

theorem stage_bits {m : Nat → Nat} {x : Nat → Nat} {k q b : Nat} (h : Bits m (inS x k)) (hq : x k / 64 = q) (hb : x k % 64 = b) : Bits (upd m q (m q ||| 2 ^ b)) (inS x (k + 1)) := by
  have := bits_set h (x k)
  rw [hq, hb] at this
  exact bits_congr this fun j _ => (inS_succ x k j).symm

theorem below_row {B : Nat} {w w' : World} (h : Below B w w') {b t n : Nat} {f : Nat → Value} (hr : w.rowIs b t n f) (hb : b < B) : w'.rowIs b t n f := hr.of_block (h.block b hb)
theorem row_lt {w : World} {b t n : Nat} {f : Nat → Value} (h : w.rowIs b t n f) : b < w.heap.size := by
  obtain ⟨c, hc, _⟩ := h
  by_cases g : b < w.heap.size
  · exact g
  · have : w.heap[b]? = none := Array.getElem?_eq_none (by omega)
    rw [this] at hc
    cases hc

/-- The cells of a row of runs. -/
def rcell (R : Nat → Int) (j : Nat) : Value := if j % 2 = 0 then .int .u32 (R (j / 2)) else .slice none 0 0
def rrow (R : Nat → Int) (k j : Nat) : Value := if j < 2 * k then rcell R j else rcell (fun _ => 0) j

theorem info47 : (Yba.prog.info? 47).map (fun i => (i.zero, i.size, i.bytes)) = some (some (.agg #[.int .u32 0, .slice none 0 0]), 2, 32) := by kernel_rfl

theorem make_runs (N : Nat) (h : N ≤ 1048576) (w : World) :
    (Instr.makeSlice 44 (.int .i64 (N : Int)) (.int .i64 (N : Int))).run Yba.prog w = .ok (.slice (some ⟨w.heap.size, 0, none⟩) N N) (w.alloc (.cells (madeCells #[.int .u32 0, .slice none 0 0] (N * 2)) 47)) := by
  obtain ⟨i, hi, hz, hs, hb⟩ := info_parts info47
  have := run_make (P := Yba.prog) w 44 47 i _ Yba.underlying44 hi hz .i64 .i64 N N (by omega) (Int.le_refl _) (by rw [hb]; omega) (by omega)
  rw [hs] at this
  simpa [Value.cells] using this

theorem runs_made (w : World) (N : Nat) (R : Nat → Int) : (w.alloc (.cells (madeCells #[.int .u32 0, .slice none 0 0] (N * 2)) 47)).rowIs w.heap.size 47 (N * 2) (rrow R 0) := by
  refine ⟨_, blk_alloc_new _ _, size_madeCells _ _, fun i hi => ?_⟩
  have h : i % 2 = 0 ∨ i % 2 = 1 := by omega
  rcases h with h | h <;> simp [madeCells, hi, h, rrow, rcell]

theorem neq24 (a : Option Addr) (l c : Nat) (w : World) : (binOp .neq 24 (.slice a l c) (.slice none 0 0)).run Yba.prog w = .ok (.bool (!a.isNone)) w :=
  run_neq_slice_nil_any (P := Yba.prog) w 24 26 a l c 0 0 Yba.underlying24
theorem eql25 (a : Option Addr) (l c : Nat) (w : World) : (binOp .eql 25 (.slice a l c) (.slice none 0 0)).run Yba.prog w = .ok (.bool a.isNone) w :=
  Go.run_eql_slice_nil (P := Yba.prog) w 25 33 a l c Yba.underlying25
theorem eql44 (a : Option Addr) (l c : Nat) (w : World) : (binOp .eql 44 (.slice a l c) (.slice none 0 0)).run Yba.prog w = .ok (.bool a.isNone) w :=
  Go.run_eql_slice_nil (P := Yba.prog) w 44 47 a l c Yba.underlying44

theorem info39 : (Yba.prog.info? 39).isSome = true := by kernel_rfl
theorem neq34_same (st : Option Addr) (w : World) : (binOp .neq 34 (.pointer st) (.pointer st)).run Yba.prog w = .ok (.bool false) w := by
  obtain ⟨j, hj⟩ := Option.isSome_iff_exists.1 info39
  cases st with
  | none =>
    have h : ∀ d : Nat, (Op.equalIn (d + 1) 34 (.pointer none) (.pointer none)).run Yba.prog w = .ok true w := fun d => by
      simp [Op.equalIn, run_underlying Yba.underlying34]
    simp only [binOp]
    simp [Op.equal, Op.maxDepth, h 9999]
  | some a => exact Go.Lib.run_neq_ptr_same (P := Yba.prog) w a Yba.underlying34 hj

theorem neq34_nil (st : Option Addr) (w : World) : (binOp .neq 34 (.pointer st) (.pointer none)).run Yba.prog w = .ok (.bool st.isSome) w := by
  have h : ∀ d : Nat, (Op.equalIn (d + 1) 34 (.pointer st) (.pointer none)).run Yba.prog w = .ok st.isNone w := fun d => by
    cases st <;> simp [Op.equalIn, run_underlying Yba.underlying34]
  simp only [binOp]
  simp [Op.equal, Op.maxDepth, h 9999]

theorem but_below {S B : Nat} {w w' : World} (h : But S w w') (hb : B ≤ S) : Below B w w' :=
  ⟨h.1, h.2.1, h.2.2.1, Nat.le_of_eq h.2.2.2.1.symm, fun k hk => h.2.2.2.2 k (by omega)⟩

theorem want_step {w : World} {W V : Nat} {x : Nat → Nat} {k n : Nat} {u : Value} (h : w.rowIs W 42 n (fun j => .bool (inS x k j))) (hne : W ≠ V) :
    ((w.setCell ⟨W, x k, none⟩ (.bool true)).setCell ⟨V, x k, none⟩ u).rowIs W 42 n (fun j => .bool (inS x (k + 1) j)) := by
  refine ((h.set _ _).setOther hne _).congr fun j _ => ?_
  show (if j = x k then Value.bool true else .bool (inS x k j)) = .bool (inS x (k + 1) j)
  rw [inS_succ]
  by_cases h : j = x k
  · subst h; simp
  · simp [h]

theorem data_step {w : World} {W V : Nat} {x : Nat → Nat} {k n : Nat} {u : Value} (h : w.rowIs V 35 n (fun j => .int .u8 (dat x k j))) (hne : V ≠ W) :
    ((w.setCell ⟨W, x k, none⟩ u).setCell ⟨V, x k, none⟩ (.int .u8 (bits .xor .u8 ((x k : Int) % 256) 90))).rowIs V 35 n (fun j => .int .u8 (dat x (k + 1) j)) := by
  refine ((h.setOther hne _).set _ _).congr fun j _ => ?_
  show (if j = x k then Value.int .u8 (dv (x k)) else .int .u8 (dat x k j)) = .int .u8 (dat x (k + 1) j)
  rw [dat_succ]
  by_cases h : j = x k
  · rw [if_pos h, if_pos h]
  · rw [if_neg h, if_neg h]

theorem pair_below {w w' : World} {B W V j k : Nat} {u v : Value} (h : Below B w w') (hW : B ≤ W) (hV : B ≤ V) : Below B w ((w'.setCell ⟨W, j, none⟩ u).setCell ⟨V, k, none⟩ v) :=
  (h.setCell (p := ⟨W, j, none⟩) hW u).setCell (p := ⟨V, k, none⟩) hV v

theorem clr_step {w : World} {W n a : Nat} {P Q : Nat → Bool} (h : w.rowIs W 42 n (fun j => .bool (P j))) (e : ∀ j, (P j && j != a) = Q j) : (w.setCell ⟨W, a, none⟩ (.bool false)).rowIs W 42 n (fun j => .bool (Q j)) := by
  refine (h.set _ _).congr fun j _ => ?_
  show (if j = a then Value.bool false else .bool (P j)) = .bool (Q j)
  rw [← e]
  by_cases h : j = a
  · subst h; simp
  · simp [h]

theorem clr_more (S : Nat → Bool) (C : Nat → Bool) (a t j : Nat) : ((S j && !(C j || (decide (a ≤ j) && decide (j < a + t)))) && j != a + t) = (S j && !(C j || (decide (a ≤ j) && decide (j < a + (t + 1))))) := by
  rw [Bool.and_assoc]
  congr 1
  rw [Bool.eq_iff_iff]
  cases C j <;> simp
  omega

theorem clr_none (S : Nat → Bool) (C : Nat → Bool) (a j : Nat) : (S j && !C j) = (S j && !(C j || (decide (a ≤ j) && decide (j < a + 0)))) := by
  have : (decide (a ≤ j) && decide (j < a + 0)) = false := by
    rw [Bool.and_eq_false_iff]
    simp
    omega
  rw [this, Bool.or_false]

theorem run_step {w : World} {B n : Nat} {R : Nat → Int} {k : Nat} (h : w.rowIs B 47 n (rrow R k)) :
    ((w.setCell ⟨B, k * 2, none⟩ (.int .u32 (R k))).setCell ⟨B, k * 2 + 1, none⟩ (.slice none 0 0)).rowIs B 47 n (rrow R (k + 1)) := by
  refine ((h.set _ _).set _ _).congr fun j hj => ?_
  by_cases c0 : j = k * 2
  · subst c0; simp [rrow, rcell] <;> omega
  by_cases c1 : j = k * 2 + 1
  · subst c1; simp [rrow, rcell] <;> omega
  rw [if_neg c1, if_neg c0]
  unfold rrow
  by_cases hl : j < 2 * k
  · rw [if_pos hl, if_pos (by omega)]
  · rw [if_neg hl, if_neg (by omega)]

theorem held_made (w : World) (v0 : Value) (b1 : Bool) (v2 : Value) (b3 : Bool) (v4 : Value) : (w.alloc (.cells #[v0, .bool b1, v2, .bool b3, v4] 50)).rowIs w.heap.size 50 5 (heldC v0 b1 v2 b3 v4) := by
  refine ⟨_, blk_alloc_new _ _, rfl, fun i hi => ?_⟩
  match i, hi with
  | 0, _ => rfl
  | 1, _ => rfl
  | 2, _ => rfl
  | 3, _ => rfl
  | 4, _ => rfl

theorem info5 : (Yba.prog.info? 5).isSome = true := by kernel_rfl
theorem cells5 : Yba.prog.cellsOf 5 = 1 := by kernel_rfl

theorem eq31 (d : Nat) (k3 k4 : Int) (w : World) : (Op.equalIn (d + 2) 31 (.agg #[.int .u8 k3, .int .u8 k4]) (.agg #[.int .u8 k3, .int .u8 k4])).run Yba.prog w = .ok true w := by
  obtain ⟨i, hi⟩ := Option.isSome_iff_exists.1 info5
  have h := run_equalIn_array (P := Yba.prog) w (d + 1) #[.int .u8 k3, .int .u8 k4] #[.int .u8 k3, .int .u8 k4] Yba.underlying31 hi
  rw [show d + 2 = d + 1 + 1 from rfl, h, cells5, show List.range 2 = [0, 1] from rfl]
  simp [Op.eqItems, part, isAgg, run_underlying Yba.underlying5, run_equalIn_int w d 5 .u8 .u8 _ _ Yba.underlying5]

theorem neq33_same (k0 k1 k2 k3 k4 k5 : Int) (w : World) :
    (binOp .neq 33 (.agg #[.int .i64 k0, .int .i64 k1, .int .u32 k2, .int .u8 k3, .int .u8 k4, .int .i64 k5]) (.agg #[.int .i64 k0, .int .i64 k1, .int .u32 k2, .int .u8 k3, .int .u8 k4, .int .i64 k5])).run Yba.prog w = .ok (.bool false) w := by
  have h := eq31 9997 k3 k4 w
  go_simp

theorem alloc_other (w : World) (o : Obj) (b : Nat) (h : b ≠ w.heap.size) : (w.alloc o).heap[b]? = w.heap[b]? := by
  by_cases g : b < w.heap.size
  · exact blk_alloc_lt w o b g
  · rw [Array.getElem?_eq_none (by simp; omega), Array.getElem?_eq_none (by omega)]

theorem neq45_nil (w : World) : (binOp .neq 45 (.slice none 0 0) (.slice none 0 0)).run Yba.prog w = .ok (.bool false) w :=
  (run_neq_slice_nil_any (P := Yba.prog) w 45 5 none 0 0 0 0 Yba.underlying45)

theorem rcell_at (R : Nat → Int) (k : Nat) : rcell R (k * 2) = .int .u32 (R k) ∧ rcell R (k * 2 + 1) = .slice none 0 0 := by
  constructor <;> unfold rcell
  · rw [if_pos (by omega), show k * 2 / 2 = k by omega]
  · rw [if_neg (by omega)]

theorem row_fields {w : World} {B n : Nat} {L C : Nat → Int} {ad : Nat → Nat} {D0 D1 : Nat → Int} {cn : Nat → Nat} (h : w.rowIs B 33 (n * 6) (fcell L C ad D0 D1 cn)) (k : Nat) (hk : k < n) :
    w.cell? ⟨B, k * 6, none⟩ = some (.int .i64 (L k)) ∧ w.cell? ⟨B, k * 6 + 1, none⟩ = some (.int .i64 (C k)) ∧ w.cell? ⟨B, k * 6 + 2, none⟩ = some (.int .u32 (ad k)) ∧ w.cell? ⟨B, k * 6 + 3, none⟩ = some (.int .u8 (D0 k)) ∧ w.cell? ⟨B, k * 6 + 4, none⟩ = some (.int .u8 (D1 k)) ∧ w.cell? ⟨B, k * 6 + 5, none⟩ = some (.int .i64 (cn k)) := by
  obtain ⟨e0, e1, e2, e3, e4, e5⟩ := fcell_at L C ad D0 D1 cn k
  obtain ⟨z0, z1, z2, z3, z4, z5⟩ := row_six h k hk
  exact ⟨z0.trans (congrArg _ e0), z1.trans (congrArg _ e1), z2.trans (congrArg _ e2), z3.trans (congrArg _ e3), z4.trans (congrArg _ e4), z5.trans (congrArg _ e5)⟩

end Go.Proofs.Ybulkdzvo
