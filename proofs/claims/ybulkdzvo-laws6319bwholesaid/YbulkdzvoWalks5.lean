/-
  The law over lists that are too long; what comes in, as the walk reads it.
-/
import Derived.Test.YbulkdzvoWalks3
import Derived.Deep.Fields
namespace Go.Proofs.Ybulkdzvo
open Go.RowKit PlainB Go.Deep
open Go.ChangeShapes Go.WideShapes
attribute [local go_sem ↓] Go.wp_at_zero Go.wp_at_succ

set_option maxHeartbeats 1000000 in
set_option maxRecDepth 20000 in
theorem law_big (a0 : Option Addr) (nf cf : Nat) (s h dfs : Bool) (a4 : Option Addr) (ns cs : Nat) (a5 : Option Addr) (nr cr : Nat) (w : World) (hb : ¬ (nf ≤ 1048576 ∧ ns ≤ 1048576 ∧ nr ≤ 1048576)) :
    Calls Yba.prog 3 #[.slice a0 nf cf, .bool s, .bool h, .bool dfs, .slice a4 ns cs, .slice a5 nr cr] w fun e w' => e = .returned (.bool true) ∧ Below w.heap.size w w' := by
  by_cases c1 : nf ≤ 1048576
  · by_cases c2 : ns ≤ 1048576
    · have i1 : ¬ (1048576 : Int) < nf := by omega
      have i2 : ¬ (1048576 : Int) < ns := by omega
      have i3 : (1048576 : Int) < nr := by omega
      clear hb c1 c2
      go_enter Yba.func3, Yba.ntmps3
      go_wp2
      go_ret
      exact ⟨rfl, Below.refl _ _⟩
    · have i1 : ¬ (1048576 : Int) < nf := by omega
      have i2 : (1048576 : Int) < ns := by omega
      clear hb c1 c2
      go_enter Yba.func3, Yba.ntmps3
      go_wp2
      go_ret
      exact ⟨rfl, Below.refl _ _⟩
  · have i1 : (1048576 : Int) < nf := by omega
    clear hb c1
    go_enter Yba.func3, Yba.ntmps3
    go_wp2
    go_ret
    exact ⟨rfl, Below.refl _ _⟩

theorem open_struct_cells {H : Type} {enc : TypeId × Value → H} {P : Program} {w : World} {base : Nat} {spare : Nat → Bool} {held : Bool} {ts : TypeId} {fs : Array Field} {fuel : Nat} {a : Addr} {cs' : List Value} {y : DataW H × List MemPlace} (hs : P.underlying ts = some (.struct fs))
    (hone : ∀ (i : Nat) (f : Field), fs[i]? = some f → f.offset = i ∧ P.cellsOf f.type = 1) (hC : P.cellsOf ts = fs.size) (hcells : w.cells? base a (P.cellsOf ts) = some cs') (hy : DataW.trod enc P w base spare held fuel ts cs' = some y) :
    ∃ (n : Nat) (V : Nat → Value) (Y : Nat → DataW H × List MemPlace), ∀ (i : Nat) (f : Field), fs[i]? = some f → w.cell? (a.add i) = some (V i) ∧ DataW.trod enc P w base spare held n f.type [V i] = some (Y i) := by
  obtain ⟨hb, hlen, hcell⟩ := World.cells?_some hcells
  rw [hC] at hlen hcell
  obtain ⟨xs, n, _, rfl, _, hxl, hf⟩ := DataW.trod_struct hs hy
  refine ⟨n, fun i => cs'.getD i undef, fun i => xs.getD i (.nil, []), fun i f hi => ?_⟩
  have hlt : i < fs.size := (Array.getElem?_eq_some_iff.1 hi).1
  obtain ⟨ho, hc1⟩ := hone i f hi
  have g := hf i f hi
  rw [ho, hc1] at g
  rw [take1_drop cs' i undef (by omega), List.getElem?_eq_getElem (by omega)] at g
  refine ⟨?_, ?_⟩
  · have := hcell i hlt
    rw [List.getElem?_eq_getElem (by omega)] at this
    rw [this]
    simp [List.getD, List.getElem?_eq_getElem (show i < cs'.length by omega)]
  · rw [g]
    simp [List.getD, List.getElem?_eq_getElem (show i < xs.length by omega)]

theorem u32_wf {z : Int} (h : (Lit.int .u32 z).wf = true) : 0 ≤ z ∧ z < 4294967296 := by
  simp [Lit.wf, IntKind.min, IntKind.max, IntKind.signed, IntKind.bits] at h
  omega
theorem u16_wf {z : Int} (h : (Lit.int .u16 z).wf = true) : 0 ≤ z ∧ z < 65536 := by
  simp [Lit.wf, IntKind.min, IntKind.max, IntKind.signed, IntKind.bits] at h
  omega
theorem u8_wf {z : Int} (h : (Lit.int .u8 z).wf = true) : 0 ≤ z ∧ z ≤ 255 := by
  simp [Lit.wf, IntKind.min, IntKind.max, IntKind.signed, IntKind.bits] at h
  omega

theorem fs28 : ∃ fs : Array Field, Yba.prog.underlying 28 = some (.struct fs) ∧ oneCellFields Yba.prog fs = true ∧ Yba.prog.cellsOf 28 = fs.size ∧ fs.size = 6 ∧ (fs.map (·.type)).toList = [3, 3, 26, 5, 5, 5] :=
  ⟨_, Yba.underlying28, by kernel_rfl, by kernel_rfl, by kernel_rfl, by kernel_rfl⟩

theorem elem28 {H : Type} {enc : TypeId × Value → H} {w : World} {spare : Nat → Bool} {held : Bool} {n : Nat} {a : Addr} {cs' : List Value} {y : DataW H × List MemPlace} (hcells : w.cells? 0 a (Yba.prog.cellsOf 28) = some cs') (hy : DataW.trod enc Yba.prog w 0 spare held n 28 cs' = some y) :
    ∃ l c d e f m : Int, (0 ≤ d ∧ d < 4294967296) ∧ (0 ≤ m ∧ m ≤ 255) ∧ w.cell? (a.add 0) = some (.int .i64 l) ∧ w.cell? (a.add 1) = some (.int .i64 c) ∧ w.cell? (a.add 2) = some (.int .u32 d) ∧ w.cell? (a.add 3) = some (.int .u8 e) ∧ w.cell? (a.add 4) = some (.int .u8 f) ∧ w.cell? (a.add 5) = some (.int .u8 m) := by
  obtain ⟨fs, hs, hone, hC, hsz, hty⟩ := fs28
  obtain ⟨k, V, Y, hV⟩ := open_struct_cells hs (hone_of hone) hC hcells hy
  have ht : ∀ i : Nat, (fs[i]?).map Field.type = ([3, 3, 26, 5, 5, 5] : List Nat)[i]? := fun i => by
    rw [← hty]
    simp
  have one : ∀ (i t : Nat) (kd : IntKind), ([3, 3, 26, 5, 5, 5] : List Nat)[i]? = some t → Yba.prog.underlying t = some (.int kd) → ∃ z, w.cell? (a.add i) = some (.int kd z) ∧ (Lit.int kd z).wf = true := fun i t kd h1 h2 => by
    obtain ⟨f, hf, e⟩ := Option.map_eq_some_iff.1 ((ht i).trans h1)
    obtain ⟨g1, g2⟩ := hV i f hf
    rw [e] at g2
    obtain ⟨z, hz, _, hw⟩ := DataW.trod_int h2 g2
    simp at hz
    exact ⟨z, by rw [g1, hz], hw⟩
  obtain ⟨l, h0, _⟩ := one 0 3 .i64 rfl Yba.underlying3
  obtain ⟨c, h1, _⟩ := one 1 3 .i64 rfl Yba.underlying3
  obtain ⟨d, h2, w2⟩ := one 2 26 .u32 rfl Yba.underlying26
  obtain ⟨e, h3, _⟩ := one 3 5 .u8 rfl Yba.underlying5
  obtain ⟨f, h4, _⟩ := one 4 5 .u8 rfl Yba.underlying5
  obtain ⟨m, h5, w5⟩ := one 5 5 .u8 rfl Yba.underlying5
  exact ⟨l, c, d, e, f, m, u32_wf w2, u8_wf w5, h0, h1, h2, h3, h4, h5⟩

theorem fields_in {H : Type} {enc : TypeId × Value → H} {w : World} {spare : Nat → Bool} {held : Bool} {a : Addr} {len : Nat} (hx : ∀ i, i < len → ∃ cs' n y, w.cells? 0 (a.add (i * Yba.prog.cellsOf 28)) (Yba.prog.cellsOf 28) = some cs' ∧ DataW.trod enc Yba.prog w 0 spare held n 28 cs' = some y) :
    ∃ L C Ad D0 D1 N : Nat → Int, (∀ i, 0 ≤ Ad i ∧ Ad i < 4294967296) ∧ (∀ i, 0 ≤ N i ∧ N i ≤ 255) ∧ FsIn w (some a) len L C Ad D0 D1 N := by
  obtain ⟨fs, _, _, hC, hsz, _⟩ := fs28
  have h6 : Yba.prog.cellsOf 28 = 6 := hC.trans hsz
  have key : ∀ i, ∃ t : Int × Int × Int × Int × Int × Int, (0 ≤ t.2.2.1 ∧ t.2.2.1 < 4294967296) ∧ (0 ≤ t.2.2.2.2.2 ∧ t.2.2.2.2.2 ≤ 255) ∧ (i < len → w.cell? (a.add (i * 6)) = some (.int .i64 t.1) ∧ w.cell? (a.add (i * 6 + 1)) = some (.int .i64 t.2.1) ∧ w.cell? (a.add (i * 6 + 2)) = some (.int .u32 t.2.2.1) ∧ w.cell? (a.add (i * 6 + 3)) = some (.int .u8 t.2.2.2.1) ∧ w.cell? (a.add (i * 6 + 4)) = some (.int .u8 t.2.2.2.2.1) ∧ w.cell? (a.add (i * 6 + 5)) = some (.int .u8 t.2.2.2.2.2)) := fun i => by
    by_cases hi : i < len
    · obtain ⟨cs', n, y, h1, h2⟩ := hx i hi
      obtain ⟨l, c, d, e, f, m, b1, b2, g0, g1, g2, g3, g4, g5⟩ := elem28 h1 h2
      rw [h6, add_add] at g0 g1 g2 g3 g4 g5
      exact ⟨(l, c, d, e, f, m), b1, b2, fun _ => ⟨g0, g1, g2, g3, g4, g5⟩⟩
    · exact ⟨(0, 0, 0, 0, 0, 0), by simp, by simp, fun h => absurd h hi⟩
  obtain ⟨T, hT⟩ := Classical.skolem.1 key
  refine ⟨fun i => (T i).1, fun i => (T i).2.1, fun i => (T i).2.2.1, fun i => (T i).2.2.2.1, fun i => (T i).2.2.2.2.1, fun i => (T i).2.2.2.2.2, fun i => (hT i).1, fun i => (hT i).2.1, fun hp => ?_⟩
  obtain ⟨g, o, spot⟩ := a
  have hspot : spot = none := by simpa [Addr.add] using World.cell?_spot ((hT 0).2.2 hp).1
  subst hspot
  refine ⟨g, o, rfl, fun i hi => ?_⟩
  have := (hT i).2.2 hi
  simp only [add_plain] at this
  simpa only [Nat.add_assoc] using this

/-- A slice of integers, opened by 'open_ints'. -/
theorem ints_in {w : World} {k : IntKind} {x : Addr} {len cap : Nat} {zs : List Int} (hl : len ≤ cap) (hz : zs.length = cap) (hcell : ∀ i, i < zs.length → w.cell? (x.add i) = some (.int k (zs.getD i 0))) : OneIn w (some x) len (fun i => .int k (zs.getD i 0)) := fun hp => by
  obtain ⟨g, o, spot⟩ := x
  have hspot : spot = none := by simpa [Addr.add] using World.cell?_spot (hcell 0 (by omega))
  subst hspot
  exact ⟨g, o, rfl, fun i hi => by rw [← add_plain]; exact hcell i (by omega)⟩

theorem getD_wf {k : IntKind} {zs : List Int} (h0 : (Lit.int k 0).wf = true) (hw : ∀ z ∈ zs, (Lit.int k z).wf = true) (i : Nat) : (Lit.int k (zs.getD i 0)).wf = true := by
  by_cases h : i < zs.length
  · rw [List.getD, List.getElem?_eq_getElem h]
    exact hw _ (List.getElem_mem h)
  · rw [List.getD, List.getElem?_eq_none (by omega)]
    exact h0

end Go.Proofs.Ybulkdzvo
