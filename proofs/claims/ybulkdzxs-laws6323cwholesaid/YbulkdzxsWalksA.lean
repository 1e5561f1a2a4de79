/-
  zzs6323abe and decodeElements, walked.
-/
import Derived.Test.YbulkdzxsShelf
import Derived.Test.YbulkdzxsPlainA
import Derived.WalkKit
import Derived.WalkSpells
import Derived.WalkLawsBesides
import Derived.Below
import Derived.Deep.OwnRows
import Derived.Deep.RegionHeld3
import Derived.Deep.DrawnRows
import Derived.OwnWalk
import Derived.Deep.RegionWith
namespace Go.Proofs.Ybulkdzxs
open Go.RowKit PlainA Go.Deep
attribute [local go_sem ↓] Go.wp_at_zero Go.wp_at_succ

theorem ret_int {k : IntKind} {a b : Int} (h : a = b) : Ending.returned (.int k a) = .returned (.int k b) := by rw [h]
theorem val_int {k : IntKind} {a b : Int} (h : a = b) : Value.int k a = .int k b := by rw [h]
theorem hide {p : Prop} (h : p) : Hid p := h

set_option maxHeartbeats 1000000 in
theorem abe_any (g o n c m : Nat) (zs : List Int) (w : World) (hn : n ≤ 1048576) (hz : zs.length = n) (hm : m + 8 ≤ n) (hcell : ∀ j, j < n → w.cell? ⟨g, o + j, none⟩ = some (.int .u8 (zs.getD j 0)))
    (hw : ∀ i, 0 ≤ zs.getD i 0 ∧ zs.getD i 0 ≤ 255) :
    Calls Yba.prog 7 #[.slice (some ⟨g, o, none⟩) n c, .int .i64 m] w fun e w' => e = .returned (.int .u64 (word zs m)) ∧ w' = w := by
  have HC := hide hcell
  clear hcell
  go_enter Yba.func7, Yba.ntmps7
  go_wp2
  go_loop [5, 6] (fun x i => ∃ k : Nat, k ≤ 8 ∧ i = .int .i64 k ∧ x = .int .u64 (wpart zs m k)) (fun _ i => 8 - (intOf i).toNat)
  case atStart => exact ⟨0, by omega, rfl, by rw [part_zero]⟩
  case round =>
    obtain ⟨k, hk, rfl, rfl⟩ := hrel
    by_cases h8 : k < 8
    · have hc := HC.out (m + k) (by omega)
      obtain ⟨p0, p1⟩ := part_small zs m k hw (by omega) (by omega)
      obtain ⟨z, hz'⟩ : ∃ z, zs.getD (m + k) 0 = z := ⟨_, rfl⟩
      obtain ⟨z0, z1⟩ := hw (m + k)
      have hs := part_succ zs m k (by omega)
      rw [hz'] at hc z0 z1 hs
      obtain ⟨p, hp⟩ : ∃ p, wpart zs m k = p := ⟨_, rfl⟩
      rw [hp] at p0 p1 hs ⊢
      have hor := or_byte p z p0 p1 z0 z1
      have HS := hide hs
      clear hs hz' hp HC hw hz
      have h8' : (k : Int) < 8 := by omega
      have hmn : (m : Int) + k < n := by omega
      go_wp2
      exact ⟨⟨k + 1, by omega, val_int (by omega), val_int HS.out.symm⟩, by simp [intOf]; omega⟩
    · obtain rfl : k = 8 := by omega
      go_wp2
      go_ret
      exact ⟨rfl, rfl⟩

/-- 's[l:]' of a slice at a plain address, l below its capacity; elements of one cell. -/
theorem slice_from {P : Program} {T E : TypeId} (hu : P.underlying T = some (.slice E)) (hs : (P.info? E).map (·.size) = some 1) (g o n c l : Nat) (i : Int) (hi : i = (l : Int)) (hl : l ≤ n) (hc : l < c) (w : World) :
    (Instr.slice T (.slice (some ⟨g, o, none⟩) n c) (some (.int .i64 i)) none none).run P w = .ok (.slice (some ⟨g, o + l, none⟩) (n - l) (c - l)) w := by
  subst hi
  obtain ⟨t, ht, hz⟩ := Option.map_eq_some_iff.1 hs
  have h1 : ¬ c = l := by omega
  simp [Instr.slice, Instr.sliceBounds, Instr.sliceBound, run_underlying hu, asIntOf, sizeOf, typeInfo, ht, hz, hl, h1, Addr.add]

theorem cell_lt {w : World} {a : Addr} {v : Value} (h : w.cell? a = some v) : a.block < w.heap.size := by
  by_cases g : a.block < w.heap.size
  · exact g
  · have : w.heap[a.block]? = none := Array.getElem?_eq_none (by omega)
    simp [World.cell?, this] at h

theorem info27 : (Yba.prog.info? 27).map (fun i => (i.zero, i.size, i.bytes)) = some (some (.agg #[.int .u64 0, .int .u64 0]), 2, 16) := by kernel_rfl

theorem make_elements (N : Nat) (h : N ≤ 1048576) (w : World) :
    (Instr.makeSlice 23 (.int .i64 (N : Int)) (.int .i64 (N : Int))).run Yba.prog w = .ok (.slice (some ⟨w.heap.size, 0, none⟩) N N) (w.alloc (.cells (madeCells #[.int .u64 0, .int .u64 0] (N * 2)) 27)) := by
  obtain ⟨i, hi, hz, hs, hb⟩ := info_parts info27
  have := run_make (P := Yba.prog) w 23 27 i _ Yba.underlying23 hi hz .i64 .i64 N N (by omega) (Int.le_refl _) (by rw [hb]; omega) (by omega)
  rw [hs] at this
  simpa [Value.cells] using this

/-- binary.BigEndian.Uint64 at m bytes into the slice. -/
theorem be_at (g o n c m : Nat) (zs : List Int) (hz : zs.length = n) (hm : m + 8 ≤ n) (hw : ∀ z ∈ zs, (Lit.int .u8 z).wf = true) (w : World) (hcell : ∀ j, j < n → w.cell? ⟨g, o + j, none⟩ = some (.int .u8 (zs.getD j 0))) :
    Calls Yba.prog 13 #[.agg #[], .slice (some ⟨g, o + m, none⟩) (n - m) (c - m)] w fun e w' => e = .returned (.int .u64 (word zs m)) ∧ Below w.heap.size w w' := by
  refine (Yba.binary_BE_Uint64_z ⟨g, o + m, none⟩ (n - m) (c - m) ((zs.drop m).take 8) w (by omega) (by simp; omega) ?_ ?_).mono ?_
  · intro i hi
    simp at hi
    have := hcell (m + i) (by omega)
    rw [WideShapes.add_plain, Nat.add_assoc, this]
    have hi' : m + i < zs.length := by omega
    simp [List.getD_eq_getElem?_getD, hi, hi']
  · intro z hz
    exact hw z (List.mem_of_mem_drop (List.mem_of_mem_take hz))
  · rintro e w' ⟨rfl, hb⟩
    refine ⟨?_, hb⟩
    rw [List.take_take]
    rfl

/-- The row of elements behind k rounds: cell j holds the number that the bytes from 8 * j on spell. -/
def Row (zs : List Int) (k j : Nat) : Value := .int .u64 (if j < 2 * k then word zs (8 * j) else 0)

theorem row_start (w : World) (zs : List Int) (N : Nat) : (w.alloc (.cells (madeCells #[.int .u64 0, .int .u64 0] (N * 2)) 27)).rowIs w.heap.size 27 (N * 2) (Row zs 0) := by
  refine ⟨_, blk_alloc_new _ _, size_madeCells _ _, fun i hi => ?_⟩
  rcases Nat.mod_two_eq_zero_or_one i with h | h <;> simp [madeCells, hi, h, Row]

theorem row_over {w w1 w2 : World} {B t n : Nat} {f : Nat → Value} (h : w.rowIs B t n f) (h1 : Below w.heap.size w w1) (h2 : Below w1.heap.size w1 w2) : w2.rowIs B t n f := by
  have l := h.lt
  have l1 := h1.size
  exact (h.of_block (h1.block B l)).of_block (h2.block B (by omega))

theorem row_cells {w : World} {B t N : Nat} {f : Nat → Value} (h : w.rowIs B t (N * 2) f) (k : Nat) (hk : k < N) :
    w.cell? ⟨B, k * 2, none⟩ = some (f (k * 2)) ∧ w.cell? ⟨B, k * 2 + 1, none⟩ = some (f (k * 2 + 1)) ∧ w.frozen? ⟨B, k * 2, none⟩ = false ∧ w.frozen? ⟨B, k * 2 + 1, none⟩ = false :=
  ⟨h.cell (by omega), h.cell (by omega), h.frozen _, h.frozen _⟩

theorem row_step {w : World} {B t M : Nat} {zs : List Int} {k : Nat} (h : w.rowIs B t M (Row zs k)) :
    ((w.setCell ⟨B, k * 2, none⟩ (.int .u64 (word zs (16 * k)))).setCell ⟨B, k * 2 + 1, none⟩ (.int .u64 (word zs (16 * k + 8)))).rowIs B t M (Row zs (k + 1)) := by
  refine ((h.set _ _).set _ _).congr fun i _ => ?_
  simp only [Row]
  by_cases h1 : i = k * 2 + 1
  · subst h1
    rw [if_pos rfl, if_pos (by omega), show 8 * (k * 2 + 1) = 16 * k + 8 by omega]
  · rw [if_neg h1]
    by_cases h2 : i = k * 2
    · subst h2
      rw [if_pos rfl, if_pos (by omega), show 8 * (k * 2) = 16 * k by omega]
    · rw [if_neg h2]
      by_cases h3 : i < 2 * k
      · rw [if_pos h3, if_pos (by omega)]
      · rw [if_neg h3, if_neg (by omega)]

set_option maxHeartbeats 1000000 in
theorem decode_any (g o n c N : Nat) (zs : List Int) (w : World) (hn : n ≤ 1048576) (hnc : n ≤ c) (hz : zs.length = n) (hN : n / 16 = N) (hcell : ∀ j, j < n → w.cell? ⟨g, o + j, none⟩ = some (.int .u8 (zs.getD j 0)))
    (hw : ∀ z ∈ zs, (Lit.int .u8 z).wf = true) :
    Calls Yba.prog 6 #[.slice (some ⟨g, o, none⟩) n c] w fun e w' => e = .returned (.slice (some ⟨w.heap.size, 0, none⟩) N N) ∧ w'.rowIs w.heap.size 27 (N * 2) (Row zs N) ∧ Below w.heap.size w w' := by
  have HC := hide hcell
  have hN' : (n : Int) / 16 = (N : Int) := by omega
  have hmk := fun w => make_elements N (by omega) w
  have HN := hide hN
  clear hcell hN
  go_enter Yba.func6, Yba.ntmps6
  go_wp2
  go_loopw [11] (fun i wr => ∃ k : Nat, k ≤ N ∧ i = .int .i64 k ∧ wr.rowIs w.heap.size 27 (N * 2) (Row zs k) ∧ Below w.heap.size w wr) (fun i _ => N - (intOf i).toNat)
  case atStart => exact ⟨0, by omega, rfl, row_start w zs N, (Below.refl _ _).alloc (Nat.le_refl _) _⟩
  case round =>
    obtain ⟨k, hk, rfl, hrow, hb⟩ := hrel
    by_cases hlt : k < N
    · go_wp2
      have i1 : (16 : Int) * k + 16 ≤ n := by have := HN.out; omega
      have i2 : (n : Int) ≤ c := by omega
      have i3 : (k : Int) < N := by omega
      have i4 : (16 : Int) * k < c := by omega
      have i5 : (16 : Int) * k + 8 < c := by omega
      have hs1 := fun w => slice_from (P := Yba.prog) Yba.underlying22 (by kernel_rfl) g o n c (16 * k) (16 * (k : Int)) (by omega) (by omega) (by omega) w
      have hs2 := fun w => slice_from (P := Yba.prog) Yba.underlying22 (by kernel_rfl) g o n c (16 * k + 8) (16 * (k : Int) + 8) (by omega) (by omega) (by omega) w
      have hw1 : IntKind.i64.wrap (16 * (k : Int)) = 16 * k := by rw [IntKind.wrap_i64]; omega
      have hw2 : IntKind.i64.wrap (16 * (k : Int) + 8) = 16 * k + 8 := by rw [IntKind.wrap_i64]; omega
      have hcr : ∀ W, Below w.heap.size w W → ∀ j, j < n → W.cell? ⟨g, o + j, none⟩ = some (.int .u8 (zs.getD j 0)) := fun W hB j hj => by
        rw [hB.cell (cell_lt (HC.out j hj))]; exact HC.out j hj
      have HCR := hide hcr
      have HROW := hide hrow
      have HB := hide hb
      have HW := hide hw
      clear hcr hrow hb hw hmk
      have B1 : wr.rowIs w.heap.size 27 (N * 2) (Row zs k) := HROW.out
      have tok1 : True := trivial
      go_region_held3 (fun _ => True) (trivial) (first
        | (go_at_call 13; have _t := tok1; refine (be_at g o n c (16 * k) zs hz (by omega) HW.out _ (HCR.out _ ?_)).mono ?_; exact HB.out.drew; rintro e w1 ⟨rfl, hb1⟩; clear tok1)
        | (go_at_call 13; refine (be_at g o n c (16 * k + 8) zs hz (by omega) HW.out _ (HCR.out _ ?_)).mono ?_; exact HB.out.drew.trans (hb1.mono HB.out.size); rintro e w2 ⟨rfl, hb2⟩; obtain ⟨x1, x2, x3, x4⟩ := row_cells (row_over (HROW.out.drew) hb1 hb2) k hlt))
      go_wp2
      exact ⟨⟨k + 1, by omega, val_int (by omega), row_step (row_over (HROW.out.drew) hb1 hb2), (((HB.out.drew.trans (hb1.mono HB.out.size)).trans (hb2.mono (Nat.le_trans HB.out.size hb1.size))).setCell (Nat.le_refl _) _).setCell (Nat.le_refl _) _⟩, by simp [intOf]; omega⟩
    · obtain rfl : k = N := by omega
      go_wp2
      go_ret
      exact ⟨rfl, hrow, hb⟩

end Go.Proofs.Ybulkdzxs
