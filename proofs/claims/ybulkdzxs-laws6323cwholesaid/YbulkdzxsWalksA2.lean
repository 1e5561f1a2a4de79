/-
  LawS6323AWhole, walked.
-/
import Derived.Test.YbulkdzxsWalksA
import Derived.BigQuiet
import Derived.Laws.CopyOwn
import Derived.Lib.LazyBuf
namespace Go.Proofs.Ybulkdzxs
open Go.RowKit PlainA Go.Deep
attribute [local go_sem ↓] Go.wp_at_zero Go.wp_at_succ

theorem info5 : (Yba.prog.info? 5).map (fun i => (i.zero, i.size, i.bytes)) = some (some (.int .u8 0), 1, 1) := by kernel_rfl

/-- 'c := make([]byte, len(b)); copy(c, b)': what the two leave. -/
theorem copy_of (g o n c : Nat) (zs : List Int) (w : World) (hz : zs.length = n) (hcell : ∀ j, j < n → w.cell? ⟨g, o + j, none⟩ = some (.int .u8 (zs.getD j 0))) :
    ∃ w1 : World, (Builtin.copy_ #[22, 22] 3 #[.slice (some ⟨w.heap.size, 0, none⟩) n n, .slice (some ⟨g, o, none⟩) n c]).run Yba.prog (w.alloc (.cells (madeCells #[.int .u8 0] n) 5)) = .ok (.int .i64 n) w1 ∧
      w1.rowIs w.heap.size 5 n (fun j => .int .u8 (zs.getD j 0)) ∧ Below w.heap.size w w1 ∧ w1.heap.size = w.heap.size + 1 := by
  have hb := blk_alloc_new w (.cells (madeCells #[.int .u8 0] n) 5)
  have hr := run_copy_row (P := Yba.prog) (w.alloc (.cells (madeCells #[.int .u8 0] n) 5)) 22 22 3 5 w.heap.size 0 n n ⟨g, o, none⟩ n c (madeCells #[.int .u8 0] n) 5 (zs.map (Value.int .u8)) Yba.underlying22 (by kernel_rfl) hb
    (by simp [hz]) ?_ (by simp [size_madeCells, hz]) ?_
  · refine ⟨_, hr.trans (congrArg (fun v => Result.ok v _) (show goInt _ = Value.int .i64 n by rw [List.length_map, hz]; rfl)), ?_, ?_, ?_⟩
    · refine ⟨_, setRow_heap _ _ _ _ _ _ hb, by simp [size_madeCells, hz], fun i hi => ?_⟩
      simp [List.getElem?_append, hz, hi, List.getD_eq_getElem?_getD]
    · exact below_setRow ((Below.refl _ _).alloc (Nat.le_refl _) _) (Nat.le_refl _) _
    · simp [World.setRow]
  · intro j v hj
    obtain ⟨hj1, hj2⟩ := List.getElem?_eq_some_iff.1 hj
    simp at hj1 hj2
    rw [WideShapes.add_plain]
    have h := hcell j (by omega)
    have hlt := cell_lt h
    rw [((Below.refl w.heap.size w).alloc (Nat.le_refl _) _).cell hlt, h]
    simp [List.getD_eq_getElem?_getD, hj1, hj2]
  · intro v hv
    simp at hv
    obtain ⟨z, _, rfl⟩ := hv
    rfl

theorem make_bytes (n : Nat) (h : n ≤ 1048576) (w : World) :
    (Instr.makeSlice 22 (.int .i64 (n : Int)) (.int .i64 (n : Int))).run Yba.prog w = .ok (.slice (some ⟨w.heap.size, 0, none⟩) n n) (w.alloc (.cells (madeCells #[.int .u8 0] n) 5)) :=
  run_make_row' 22 5 (.int .u8 0) 1 Yba.underlying22 info5 rfl .i64 .i64 n (by omega) (by omega) w

theorem plain_at {w : World} {a : Addr} {k : IntKind} {zs : List Int} (h : ∀ i, i < zs.length → w.cell? (a.add i) = some (.int k (zs.getD i 0))) (hp : 0 < zs.length) :
    ∃ b off, a = ⟨b, off, none⟩ ∧ ∀ j, j < zs.length → w.cell? ⟨b, off + j, none⟩ = some (.int k (zs.getD j 0)) := by
  obtain ⟨b, off, spot⟩ := a
  have hspot : spot = none := by simpa [Addr.add] using World.cell?_spot (h 0 hp)
  subst hspot
  exact ⟨b, off, rfl, fun j hj => by rw [← WideShapes.add_plain]; exact h j hj⟩

theorem u8_bounds {zs : List Int} (hw : ∀ z ∈ zs, (Lit.int .u8 z).wf = true) (i : Nat) : 0 ≤ zs.getD i 0 ∧ zs.getD i 0 ≤ 255 := by
  by_cases h : i < zs.length
  · have := hw zs[i] (List.getElem_mem h)
    simp [Lit.wf, IntKind.min, IntKind.max, IntKind.signed, IntKind.bits] at this
    simp [List.getD_eq_getElem?_getD, h]
    omega
  · simp [List.getD_eq_getElem?_getD, List.getElem?_eq_none (Nat.le_of_not_lt h)]

theorem row_other {w1 w2 : World} {B t n : Nat} {f : Nat → Value} (h : w1.rowIs B t n f) (hb : Below w1.heap.size w1 w2) : w2.rowIs B t n f := h.of_block (hb.block B h.lt)

theorem got_cells {w : World} {B t k : Nat} {zs : List Int} (h : w.rowIs B t (k * 2) (Row zs k)) {j : Nat} (hj : j < k) :
    w.cell? ⟨B, j * 2, none⟩ = some (.int .u64 (word zs (16 * j))) ∧ w.cell? ⟨B, j * 2 + 1, none⟩ = some (.int .u64 (word zs (16 * j + 8))) := by
  have h1 := h.cell (i := j * 2) (by omega)
  have h2 := h.cell (i := j * 2 + 1) (by omega)
  simp only [Row] at h1 h2
  rw [if_pos (by omega), show 8 * (j * 2) = 16 * j by omega] at h1
  rw [if_pos (by omega), show 8 * (j * 2 + 1) = 16 * j + 8 by omega] at h2
  exact ⟨h1, h2⟩

/-- zzs6323abe over the copy. -/
theorem abe_at (B n : Nat) (zs : List Int) (w : World) (hn : n ≤ 1048576) (hz : zs.length = n) (hw : ∀ z ∈ zs, (Lit.int .u8 z).wf = true) (hrow : w.rowIs B 5 n (fun j => .int .u8 (zs.getD j 0)))
    (nq : Nat) (i : Int) (m : Nat) (hm : m + 8 ≤ n) (hi : i = (m : Int)) :
    Calls Yba.prog 7 #[.slice (some ⟨B, 0, none⟩) n n, .int .i64 i] (w.drewN nq) fun e w' => e = .returned (.int .u64 (word zs m)) ∧ w' = w.drewN nq := by
  subst hi
  refine abe_any B 0 n n m zs (w.drewN nq) hn hz hm ?_ (u8_bounds hw)
  intro j hj
  rw [World.cell?_drewN, Nat.zero_add]
  exact hrow.cell hj

set_option maxHeartbeats 2000000 in
theorem lawA_some (g o n c N : Nat) (zs : List Int) (w : World) (h0 : 0 < n) (hn : n ≤ 1048576) (hnc : n ≤ c) (hz : zs.length = n) (hN : n / 16 = N) (hcell : ∀ j, j < n → w.cell? ⟨g, o + j, none⟩ = some (.int .u8 (zs.getD j 0)))
    (hw : ∀ z ∈ zs, (Lit.int .u8 z).wf = true) :
    Calls Yba.prog 3 #[.slice (some ⟨g, o, none⟩) n c] w fun e w' => e = .returned (.bool true) ∧ Below w.heap.size w w' := by
  have HC := hide hcell
  have hmk := fun w => make_bytes n hn w
  obtain ⟨w1, hcp, hrow1, hb1, hs1⟩ := copy_of g o n c zs w hz hcell
  have hB := cell_lt (hcell 0 h0)
  have HR1 := hide hrow1
  have HB1 := hide hb1
  have HS1 := hide hs1
  clear hcell hrow1 hb1 hs1
  go_enter Yba.func3, Yba.ntmps3
  have hnil := fun (w : World) (a : Addr) (l c : Nat) => run_eql_slice_nil (P := Yba.prog) w 23 27 (some a) l c Yba.underlying23
  have hz16 : ((N : Int) != (N : Int)) = false := by simp
  have HZ := hide hz
  have HW := hide hw
  clear hw hz
  go_wp2_with (go_at_call 6; refine (decode_any g o n c N zs w1 hn hnc HZ.out hN ?hc HW.out).mono ?_; rotate_left; rintro e w2 ⟨rfl, hrow2, hb2⟩; have HR2 := hide hrow2; have HB2 := hide hb2; clear hrow2 hb2)
  case hc =>
    intro j hj
    rw [HB1.out.cell (show g < w.heap.size from hB)]; exact HC.out j hj
  clear hmk hcp hnil
  have HN := hide hN
  clear hN
  go_loop [5, 6] (fun a b => ∃ k : Nat, 16 * k ≤ n ∧ a = .int .i64 k ∧ b = .int .i64 (16 * (k : Int) + 16)) (fun _ b => (n + 16 - intOf b).toNat)
  case atStart => exact ⟨0, by omega, rfl, rfl⟩
  case round =>
    obtain ⟨k, hk, rfl, rfl⟩ := hrel
    by_cases hlt : 16 * k + 16 ≤ n
    · have i1 : (16 : Int) * k + 16 ≤ n := by omega
      go_wp2
      exact ⟨⟨k + 1, by omega, val_int (by omega), val_int (by omega)⟩, by simp [intOf]; omega⟩
    · obtain rfl : k = N := by have := HN.out; omega
      have i1 : ¬ (16 : Int) * k + 16 ≤ n := by omega
      go_wp2
      go_loopw [7] (fun i wr => ∃ j m : Nat, j ≤ k ∧ i = .int .i64 j ∧ wr = w2.drewN m) (fun i _ => k - (intOf i).toNat)
      case atStart => exact ⟨0, 0, by omega, rfl, rfl⟩
      case round =>
        obtain ⟨j, m, hj, rfl, rfl⟩ := hrel
        by_cases hjk : j < k
        · obtain ⟨x1, x2⟩ := got_cells HR2.out hjk
          have habe := fun W i mm hm hi => abe_at (w.heap.size) n zs w2 hn HZ.out HW.out (row_other HR1.out HB2.out) W i mm hm hi
          have hj1 : (j : Int) < k := by omega
          have hj2 : (0 : Int) ≤ j := by omega
          have HA := hide habe
          clear habe
          obtain ⟨v1, hv1⟩ : ∃ v, word zs (16 * j) = v := ⟨_, rfl⟩
          obtain ⟨v2, hv2⟩ : ∃ v, word zs (16 * j + 8) = v := ⟨_, rfl⟩
          rw [hv1] at x1
          rw [hv2] at x2
          have hw1 : IntKind.i64.wrap (16 * (j : Int)) = 16 * j := by rw [IntKind.wrap_i64]; omega
          have hw2 : IntKind.i64.wrap (16 * (j : Int) + 8) = 16 * j + 8 := by rw [IntKind.wrap_i64]; omega
          have tok1 : True := trivial
          go_wp2
          go_region_held3 (fun w' => w'.cell? ⟨w1.heap.size, j * 2, none⟩ = some (.int .u64 v1) ∧ w'.cell? ⟨w1.heap.size, j * 2 + 1, none⟩ = some (.int .u64 v2)) (go_keep) (first
            | (go_at_call 7; have _t := tok1; refine (HA.out _ _ (16 * j) (by omega) (by omega)).mono ?_; rw [hv1]; rintro e w' ⟨rfl, rfl⟩; clear tok1)
            | (go_at_call 7; refine (HA.out _ _ (16 * j + 8) (by omega) (by omega)).mono ?_; rw [hv2]; rintro e w' ⟨rfl, rfl⟩))
          go_wp2
          exact ⟨⟨j + 1, m + 1, by omega, val_int (by omega), rfl⟩, by simp [intOf]; omega⟩
        · obtain rfl : j = k := by omega
          clear hjk
          have hck : ¬ (j : Int) < j := by omega
          go_wp2
          go_loopw [8] (fun i wr => ∃ q m : Nat, q ≤ n ∧ i = .int .i64 q ∧ wr = w2.drewN m) (fun i _ => n - (intOf i).toNat)
          case atStart => exact ⟨0, m, by omega, rfl, rfl⟩
          case round =>
            obtain ⟨q, m, hq, rfl, rfl⟩ := hrel
            by_cases hqn : q < n
            · have y1 : w2.cell? ⟨g, o + q, none⟩ = some (.int .u8 (zs.getD q 0)) := by
                rw [HB2.out.cell (show g < w1.heap.size by rw [HS1.out]; omega), HB1.out.cell (show g < w.heap.size from hB)]
                exact HC.out q hqn
              have y2 : w2.cell? ⟨w.heap.size, q, none⟩ = some (.int .u8 (zs.getD q 0)) := (row_other HR1.out HB2.out).cell hqn
              have hq1 : (q : Int) < n := by omega
              obtain ⟨z, hz⟩ : ∃ z, zs.getD q 0 = z := ⟨_, rfl⟩
              rw [hz] at y1 y2
              clear hz
              go_wp2
              go_quiet (fail)
              go_wp2
              exact ⟨⟨q + 1, m + nq, by omega, val_int (by omega), rfl⟩, by simp [intOf]; omega⟩
            · have hq1 : ¬ (q : Int) < n := by omega
              go_wp2
              go_ret
              refine ⟨rfl, ?_⟩
              exact below_drewN (HB1.out.trans (HB2.out.mono (by rw [HS1.out]; omega))) m

theorem decode_zero (a : Option Addr) (c : Nat) (w : World) :
    Calls Yba.prog 6 #[.slice a 0 c] w fun e w' => e = .returned (.slice (some ⟨w.heap.size, 0, none⟩) 0 0) ∧ ∃ cs, w' = w.alloc (.cells cs 27) := by
  have hmk : ∀ w : World, (Instr.makeSlice 23 (.int .i64 0) (.int .i64 0)).run Yba.prog w = .ok (.slice (some ⟨w.heap.size, 0, none⟩) 0 0) (w.alloc (.cells (madeCells #[.int .u64 0, .int .u64 0] (0 * 2)) 27)) := fun w => make_elements 0 (by omega) w
  go_enter Yba.func6, Yba.ntmps6
  go_wp2
  refine wp_loop_rounds 1 ?_
  rw [rounds_succ]
  go_wp2
  go_ret
  exact ⟨rfl, _, rfl⟩

set_option maxHeartbeats 1000000 in
theorem lawA_zero (a : Option Addr) (c : Nat) (w : World) :
    Calls Yba.prog 3 #[.slice a 0 c] w fun e w' => e = .returned (.bool true) ∧ Below w.heap.size w w' := by
  have hmk : ∀ w : World, (Instr.makeSlice 22 (.int .i64 0) (.int .i64 0)).run Yba.prog w = .ok (.slice (some ⟨w.heap.size, 0, none⟩) 0 0) (w.alloc (.cells (madeCells #[.int .u8 0] 0) 5)) := fun w => make_bytes 0 (by omega) w
  have hcp := fun (w : World) (d : Option Addr) => run_copy_none (P := Yba.prog) w 22 22 3 5 d a 0 0 0 c Yba.underlying22 (by kernel_rfl) (by simp)
  have hnil := fun (w : World) (a : Addr) (l c : Nat) => run_eql_slice_nil (P := Yba.prog) w 23 27 (some a) l c Yba.underlying23
  go_enter Yba.func3, Yba.ntmps3
  go_wp2_with (go_at_call 6; refine (decode_zero _ _ _).mono ?_; rintro e w2 ⟨rfl, cs, rfl⟩)
  refine wp_loop_rounds 1 ?_
  rw [rounds_succ]
  go_wp2
  refine wp_loop_rounds 1 ?_
  rw [rounds_succ]
  go_wp2
  refine wp_loop_rounds 1 ?_
  rw [rounds_succ]
  go_wp2
  go_ret
  exact ⟨rfl, ((Below.refl _ _).alloc (Nat.le_refl _) _).alloc (by simp) _⟩

theorem lawA_long (a : Option Addr) (n c : Nat) (w : World) (h : 1048576 < n) :
    Calls Yba.prog 3 #[.slice a n c] w fun e w' => e = .returned (.bool true) ∧ Below w.heap.size w w' := by
  have h' : (1048576 : Int) < n := by omega
  go_enter Yba.func3, Yba.ntmps3
  go_wp2
  go_ret
  exact ⟨rfl, Below.refl _ _⟩

/-- The whole law, of a slice as the row's frame hands it. -/
theorem lawA (a : Option Addr) (n c : Nat) (zs : List Int) (w : World)
    (h : (a = none ∧ n = 0 ∧ c = 0 ∧ zs = []) ∨ ∃ x, a = some x ∧ n ≤ c ∧ c ≤ maxLen ∧ zs.length = c ∧ (∀ i, i < zs.length → w.cell? (x.add i) = some (.int .u8 (zs.getD i 0))) ∧ ∀ n ∈ zs, (Lit.int .u8 n).wf = true) :
    Calls Yba.prog 3 #[.slice a n c] w fun e w' => e = .returned (.bool true) ∧ Below w.heap.size w w' := by
  by_cases hl : 1048576 < n
  · exact lawA_long a n c w hl
  · by_cases h0 : n = 0
    · subst h0
      exact lawA_zero a c w
    · rcases h with ⟨_, rfl, _⟩ | ⟨x, rfl, hnc, _, hz, hcell, hw⟩
      · exact absurd rfl h0
      · obtain ⟨g, o, rfl, hc⟩ := plain_at hcell (by omega)
        refine lawA_some g o n c (n / 16) (zs.take n) w (by omega) (by omega) hnc (by simp; omega) rfl ?_ ?_
        · intro j hj
          rw [hc j (by omega)]
          simp [List.getD_eq_getElem?_getD, hj]
        · intro z hz
          exact hw z (List.mem_of_mem_take hz)

end Go.Proofs.Ybulkdzxs
