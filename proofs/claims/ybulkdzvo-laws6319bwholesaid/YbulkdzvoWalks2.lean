/-
  What the law lays by make and copy; the shapes of what comes in.
-/
import Derived.Test.YbulkdzvoWalks1
import Derived.Laws.CopyOwn
import Derived.Lib.LazyBuf
import Derived.Deep.DeepCutAuto
namespace Go.Proofs.Ybulkdzvo
open Go.RowKit PlainB Go.Deep
attribute [local go_sem ↓] Go.wp_at_zero Go.wp_at_succ

/-- The cells of a row of fields. -/
def fcell (L C : Nat → Int) (ad : Nat → Nat) (D0 D1 : Nat → Int) (cn : Nat → Nat) (j : Nat) : Value :=
  if j % 6 = 0 then .int .i64 (L (j / 6)) else if j % 6 = 1 then .int .i64 (C (j / 6)) else if j % 6 = 2 then .int .u32 (ad (j / 6)) else if j % 6 = 3 then .int .u8 (D0 (j / 6)) else if j % 6 = 4 then .int .u8 (D1 (j / 6)) else .int .i64 (cn (j / 6))

def fzero (j : Nat) : Value := fcell (fun _ => 0) (fun _ => 0) (fun _ => 0) (fun _ => 0) (fun _ => 0) (fun _ => 0) j

theorem fcell_at (L C : Nat → Int) (ad : Nat → Nat) (D0 D1 : Nat → Int) (cn : Nat → Nat) (i : Nat) :
    fcell L C ad D0 D1 cn (i * 6) = .int .i64 (L i) ∧ fcell L C ad D0 D1 cn (i * 6 + 1) = .int .i64 (C i) ∧ fcell L C ad D0 D1 cn (i * 6 + 2) = .int .u32 (ad i) ∧
      fcell L C ad D0 D1 cn (i * 6 + 3) = .int .u8 (D0 i) ∧ fcell L C ad D0 D1 cn (i * 6 + 4) = .int .u8 (D1 i) ∧ fcell L C ad D0 D1 cn (i * 6 + 5) = .int .i64 (cn i) := by
  refine ⟨?_, ?_, ?_, ?_, ?_, ?_⟩ <;> unfold fcell
  · rw [if_pos (by omega), show i * 6 / 6 = i by omega]
  · rw [if_neg (by omega), if_pos (by omega), show (i * 6 + 1) / 6 = i by omega]
  · rw [if_neg (by omega), if_neg (by omega), if_pos (by omega), show (i * 6 + 2) / 6 = i by omega]
  · rw [if_neg (by omega), if_neg (by omega), if_neg (by omega), if_pos (by omega), show (i * 6 + 3) / 6 = i by omega]
  · rw [if_neg (by omega), if_neg (by omega), if_neg (by omega), if_neg (by omega), if_pos (by omega), show (i * 6 + 4) / 6 = i by omega]
  · rw [if_neg (by omega), if_neg (by omega), if_neg (by omega), if_neg (by omega), if_neg (by omega), show (i * 6 + 5) / 6 = i by omega]

theorem fcell_one (L C : Nat → Int) (ad : Nat → Nat) (D0 D1 : Nat → Int) (cn : Nat → Nat) (j : Nat) : (fcell L C ad D0 D1 cn j).oneCell' = true := by
  unfold fcell
  repeat (split; rfl)
  rfl

theorem info33 : (Yba.prog.info? 33).map (fun i => (i.zero, i.size, i.bytes)) = some (some (.agg #[.int .i64 0, .int .i64 0, .int .u32 0, .int .u8 0, .int .u8 0, .int .i64 0]), 6, 32) := by kernel_rfl

theorem make_fields (N : Nat) (h : N ≤ 1048576) (w : World) :
    (Instr.makeSlice 25 (.int .i64 (N : Int)) (.int .i64 (N : Int))).run Yba.prog w = .ok (.slice (some ⟨w.heap.size, 0, none⟩) N N) (w.alloc (.cells (madeCells #[.int .i64 0, .int .i64 0, .int .u32 0, .int .u8 0, .int .u8 0, .int .i64 0] (N * 6)) 33)) := by
  obtain ⟨i, hi, hz, hs, hb⟩ := info_parts info33
  have := run_make (P := Yba.prog) w 25 33 i _ Yba.underlying25 hi hz .i64 .i64 N N (by omega) (Int.le_refl _) (by rw [hb]; omega) (by omega)
  rw [hs] at this
  simpa [Value.cells] using this

theorem fields_made (w : World) (N : Nat) : (w.alloc (.cells (madeCells #[.int .i64 0, .int .i64 0, .int .u32 0, .int .u8 0, .int .u8 0, .int .i64 0] (N * 6)) 33)).rowIs w.heap.size 33 (N * 6) fzero := by
  refine ⟨_, blk_alloc_new _ _, size_madeCells _ _, fun i hi => ?_⟩
  have h : i % 6 = 0 ∨ i % 6 = 1 ∨ i % 6 = 2 ∨ i % 6 = 3 ∨ i % 6 = 4 ∨ i % 6 = 5 := by omega
  rcases h with h | h | h | h | h | h <;> simp [madeCells, hi, h, fzero, fcell]

/-- 'copy' between rows whose elements are of several cells. -/
theorem run_copy_wide {P : Program} (w : World) (dT sT ty elem size : TypeId) (g dLen dCap : Nat) (a : Addr) (sLen sCap : Nat) (cur : Array Value) (t : TypeId) (cs : List Value)
    (hu : P.underlying dT = some (.slice elem)) (hs : (P.info? elem).map (·.size) = some size)
    (hg : w.heap[g]? = some (.cells cur t (0, 0))) (hn : cs.length = Nat.min sLen dLen * size)
    (hsrc : ∀ j v, cs[j]? = some v → w.cell? (a.add j) = some v) (hfit : cs.length ≤ cur.size) (h1 : ∀ v ∈ cs, v.oneCell' = true) :
    (Builtin.copy_ #[dT, sT] ty #[.slice (some ⟨g, 0, none⟩) dLen dCap, .slice (some a) sLen sCap]).run P w =
      .ok (goInt (Nat.min sLen dLen)) (w.setRow g (cur.toList.take 0 ++ cs ++ cur.toList.drop (0 + cs.length)).toArray) := by
  have hl := run_loadCells_list (P := P) w a cs hsrc
  have hst := run_storeCells_at P g 0 t cs 0 cur w hg (by simpa using hfit) h1
  cases hq : P.info? elem with
  | none => simp [hq] at hs
  | some i =>
    have hi : i.size = size := by simpa [hq] using hs
    simp [Builtin.copy_, run_underlying hu, Builtin.lenOf, Builtin.firstCells, sizeOf, typeInfo, hq, hi, ← hn, hl]
    have hst' : Sem.run P (storeCells ⟨g, 0, none⟩ cs) w = .ok () (w.setRow g (cs ++ List.drop cs.length cur.toList).toArray) := by simpa using hst
    rw [hst']
    rfl

/-- 'snapshot := make([]field, len(fields)); copy(snapshot, fields)'. -/
theorem copy_fields (fp : Option Addr) (n : Nat) (f : Nat → Value) (w : World) (h1 : ∀ j, (f j).oneCell' = true) (hin : 0 < n → ∃ A, fp = some ⟨A, 0, none⟩ ∧ w.rowIs A 33 (n * 6) f) :
    ∃ w' : World, (Builtin.copy_ #[25, 25] 3 #[.slice (some ⟨w.heap.size, 0, none⟩) n n, .slice fp n n]).run Yba.prog (w.alloc (.cells (madeCells #[.int .i64 0, .int .i64 0, .int .u32 0, .int .u8 0, .int .u8 0, .int .i64 0] (n * 6)) 33)) = .ok (.int .i64 n) w' ∧
      w'.rowIs w.heap.size 33 (n * 6) f ∧ Below w.heap.size w w' ∧ w'.heap.size = w.heap.size + 1 := by
  have hb := blk_alloc_new w (.cells (madeCells #[.int .i64 0, .int .i64 0, .int .u32 0, .int .u8 0, .int .u8 0, .int .i64 0] (n * 6)) 33)
  by_cases h0 : n = 0
  · subst h0
    refine ⟨_, ?_, ⟨_, hb, size_madeCells _ _, fun i hi => by omega⟩, (Below.refl _ _).alloc (Nat.le_refl _) _, by simp⟩
    obtain ⟨i, hi, hz, hs, hbt⟩ := info_parts info33
    have hl : ∀ (x : Addr) (W : World), (loadCells x 0).run Yba.prog W = .ok #[] W := fun x W => by simpa using run_loadCells_list (P := Yba.prog) W x [] (by simp)
    cases fp <;> simp [Builtin.copy_, run_underlying Yba.underlying25, Builtin.lenOf, Builtin.firstCells, sizeOf, typeInfo, hi, storeCells, hl, goInt]
  · obtain ⟨A, rfl, hA⟩ := hin (by omega)
    have hr := run_copy_wide (P := Yba.prog) (w.alloc (.cells (madeCells #[.int .i64 0, .int .i64 0, .int .u32 0, .int .u8 0, .int .u8 0, .int .i64 0] (n * 6)) 33)) 25 25 3 33 6 w.heap.size n n ⟨A, 0, none⟩ n n
      (madeCells #[.int .i64 0, .int .i64 0, .int .u32 0, .int .u8 0, .int .u8 0, .int .i64 0] (n * 6)) 33 ((List.range (n * 6)).map f) Yba.underlying25 (by kernel_rfl) hb (by simp) ?_ (by simp [size_madeCells]) ?_
    · refine ⟨_, hr.trans (congrArg (fun v => Result.ok v _) (show goInt _ = Value.int .i64 n by rw [show Nat.min n n = n from Nat.min_self n]; rfl)), ?_, ?_, ?_⟩
      · refine ⟨_, setRow_heap _ _ _ _ _ _ hb, by simp [size_madeCells], fun i hi => ?_⟩
        simp [List.getElem?_append, hi]
      · exact below_setRow ((Below.refl _ _).alloc (Nat.le_refl _) _) (Nat.le_refl _) _
      · simp [World.setRow]
    · intro j v hj
      obtain ⟨hj1, hj2⟩ := List.getElem?_eq_some_iff.1 hj
      simp at hj1 hj2
      rw [WideShapes.add_plain, Nat.zero_add, (hA.alloc _).cell hj1, hj2]
    · intro v hv
      simp at hv
      obtain ⟨z, _, rfl⟩ := hv
      exact h1 z

/-- What came in: the fields' plain data, as the walk reads it. -/
def FsIn (w : World) (a : Option Addr) (n : Nat) (L C Ad D0 D1 N : Nat → Int) : Prop :=
  0 < n → ∃ g o, a = some ⟨g, o, none⟩ ∧ ∀ i, i < n → w.cell? ⟨g, o + i * 6, none⟩ = some (.int .i64 (L i)) ∧ w.cell? ⟨g, o + i * 6 + 1, none⟩ = some (.int .i64 (C i)) ∧ w.cell? ⟨g, o + i * 6 + 2, none⟩ = some (.int .u32 (Ad i)) ∧
    w.cell? ⟨g, o + i * 6 + 3, none⟩ = some (.int .u8 (D0 i)) ∧ w.cell? ⟨g, o + i * 6 + 4, none⟩ = some (.int .u8 (D1 i)) ∧ w.cell? ⟨g, o + i * 6 + 5, none⟩ = some (.int .u8 (N i))

/-- The row of fields behind k rounds. -/
def frow (L C : Nat → Int) (ad : Nat → Nat) (D0 D1 : Nat → Int) (cn : Nat → Nat) (k j : Nat) : Value := if j < 6 * k then fcell L C ad D0 D1 cn j else fzero j

theorem cell_lt {w : World} {a : Addr} {v : Value} (h : w.cell? a = some v) : a.block < w.heap.size := by
  by_cases g : a.block < w.heap.size
  · exact g
  · have : w.heap[a.block]? = none := Array.getElem?_eq_none (by omega)
    simp [World.cell?, this] at h

theorem neq22 (a : Option Addr) (l c : Nat) (w : World) : (binOp .neq 22 (.slice a l c) (.slice none 0 0)).run Yba.prog w = .ok (.bool (!a.isNone)) w :=
  run_neq_slice_nil_any (P := Yba.prog) w 22 28 a l c 0 0 Yba.underlying22

end Go.Proofs.Ybulkdzvo
