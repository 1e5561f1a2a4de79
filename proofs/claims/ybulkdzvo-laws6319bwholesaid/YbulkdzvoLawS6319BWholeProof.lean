/-
  LawS6319BWhole: the row out of the walk (YbulkdzvoWalks4, YbulkdzvoWalks5). The frame is the guide's.
-/
import Derived.Test.YbulkdzvoRows
import Derived.Test.YbulkdzvoWalks4
import Derived.Test.YbulkdzvoWalks5
import Derived.WalkKit
import Derived.ProofKit
import Derived.OpenShut
import Derived.ShutString
import Derived.ChangeOld
import Derived.Below
namespace Go.Proofs.Ybulkdzvo.lawS6319BWhole
open Go.ChangeShapes Go.WideShapes Go.ChangeAt Go.RowKit
set_option linter.unusedVariables false

theorem own : ownKnob Yba.prog.godebug = none := by kernel_rfl
theorem laidOut : laidOutB Yba.prog = true := by kernel_rfl

/-- THE WALK, over what came in. -/
theorem walk (a0 : Option Addr) (nf cf : Nat) (s h dfs : Bool) (a4 : Option Addr) (ns cs : Nat) (a5 : Option Addr) (nr cr : Nat) (L C Ad D0 D1 N : Nat → Int) (z4 z5 : List Int) (w : World)
    (hAd : ∀ i, 0 ≤ Ad i ∧ Ad i < 4294967296) (hN : ∀ i, 0 ≤ N i ∧ N i ≤ 255) (hfs : FsIn w a0 nf L C Ad D0 D1 N) (ha0 : a0 = none → nf = 0)
    (hset : OneIn w a4 ns (fun i => .int .u16 (z4.getD i 0))) (hw4 : ∀ z ∈ z4, (Lit.int .u16 z).wf = true) (hrun : OneIn w a5 nr (fun i => .int .u32 (z5.getD i 0))) (ha5 : a5 = none → nr = 0) :
    Calls Yba.prog 3 #[.slice a0 nf cf, .bool s, .bool h, .bool dfs, .slice a4 ns cs, .slice a5 nr cr] w fun e w' => e = .returned (.bool true) ∧ Below w.heap.size w w' := by
  by_cases hb : nf ≤ 1048576 ∧ ns ≤ 1048576 ∧ nr ≤ 1048576
  · obtain ⟨h1, h2, h3⟩ := hb
    have hx : ∀ i, 0 ≤ z4.getD i 0 ∧ z4.getD i 0 < 65536 := fun i => u16_wf (getD_wf rfl hw4 i)
    have ex : ∀ i, (((z4.getD i 0).toNat : Nat) : Int) = z4.getD i 0 := fun i => Int.toNat_of_nonneg (hx i).1
    have ecn : ∀ i, (((N i % 3).toNat : Nat) : Int) = N i % 3 := fun i => Int.toNat_of_nonneg (Int.emod_nonneg _ (by decide))
    refine law_in a0 nf cf s h dfs a4 ns cs a5 nr cr L C Ad D0 D1 N (fun i => (Ad i % (65537 - ((N i % 3).toNat : Int))).toNat) (fun i => (N i % 3).toNat) (fun i => (z4.getD i 0).toNat) (fun i => z5.getD i 0) w h1 h2 h3 hfs ha0 ?_ ?_ hrun ha5 hAd hN ecn ?_
    · intro hp
      obtain ⟨g, o, e, hc⟩ := hset hp
      exact ⟨g, o, e, fun i hi => (hc i hi).trans (congrArg some (val_int (ex i).symm))⟩
    · intro i
      have := hx i
      have := ex i
      omega
    · intro i
      refine Int.toNat_of_nonneg (Int.emod_nonneg _ ?_)
      have := ecn i
      omega
  · exact law_big a0 nf cf s h dfs a4 ns cs a5 nr cr w hb

set_option maxRecDepth 100000 in
theorem lifted (os : Os) (started : os.Started) (H : Type) (enc : TypeId × Value → H) :
    ReturnsInHanded {} Yba.checked os 3 .any (Rows.lawS6319BWholeSpec.pre6 enc Yba.prog Yba.f3 Rows.lawS6319BWholeRow.domain false) (Rows.lawS6319BWholeSpec.post enc Yba.prog Yba.f3 false true false false) := by
  refine returnsInHanded_of_change (C := Yba.checked) own started (by kernel_rfl) Yba.func3
    (ChangeSpec.witness6 (enc := enc) (C := Yba.checked) false ⟨#[], #[.slice none 0 0, .bool false, .bool false, .bool false, .slice none 0 0, .slice none 0 0], []⟩ 8 (by kernel_rfl) (by kernel_rfl) (by kernel_rfl) (by kernel_rfl)) ?_
  intro W base args ds gs before hval0 hW hcnd _
  have hval : ∀ (j : Nat) t v, Yba.f3.params[j]? = some t → args[j]? = some v → Value.okWide Yba.prog W .any base t v := hval0
  have hW' := hW
  obtain ⟨p, q, hA0, hV, rfl, hfz, hnd⟩ := hW
  have hA : DataW.TrodAll enc Yba.prog W 0 (fun _ => true) true Yba.f3.params.toList args.toList ds p := hA0
  rw [Yba.params3] at hA hval
  obtain ⟨v0, vs0, d0, ds0, p0, q0, hargs, rfl, rfl, h0, r0⟩ := trodAll_cons hA
  obtain ⟨v1, vs1, d1, ds1, p1, q1, rfl, rfl, rfl, h1, r1⟩ := trodAll_cons r0
  obtain ⟨v2, vs2, d2, ds2, p2, q2, rfl, rfl, rfl, h2, r2⟩ := trodAll_cons r1
  obtain ⟨v3, vs3, d3, ds3, p3, q3, rfl, rfl, rfl, h3, r3⟩ := trodAll_cons r2
  obtain ⟨v4, vs4, d4, ds4, p4, q4, rfl, rfl, rfl, h4, r4⟩ := trodAll_cons r3
  obtain ⟨v5, vs5, d5, ds5, p5, q5, rfl, rfl, rfl, h5, r5⟩ := trodAll_cons r4
  obtain ⟨rfl, rfl, rfl⟩ := trodAll_nil r5
  obtain rfl : args = #[v0, v1, v2, v3, v4, v5] := by cases args; simp_all
  obtain ⟨rfl, rfl⟩ := trodVars_none hV
  obtain ⟨a0, len0, cap0, rfl⟩ := okWide_slice Yba.underlying22 (hval 0 22 v0 rfl rfl)
  have k0 := h0
  have lt0 : ∀ x ∈ p0, x.block < W.heap.size := by obtain ⟨m, hm⟩ := k0; exact DataW.trod_lt m _ _ _ hm
  obtain ⟨L, C, Ad, D0, D1, N, hAd, hN, hfs, hn0⟩ : ∃ L C Ad D0 D1 N : Nat → Int, (∀ i, 0 ≤ Ad i ∧ Ad i < 4294967296) ∧ (∀ i, 0 ≤ N i ∧ N i ≤ 255) ∧ FsIn W a0 len0 L C Ad D0 D1 N ∧ (a0 = none → len0 = 0) := by
    obtain ⟨fuel, hf⟩ := h0
    rcases Go.Deep.open_slice Yba.underlying22 hf with ⟨hcs, _⟩ | ⟨x, l, c, m, n, D, Pl, hcs, _, hl, hm, hmm, _, hx⟩
    · simp [Value.cells] at hcs
      obtain ⟨rfl, rfl, rfl⟩ := hcs
      exact ⟨fun _ => 0, fun _ => 0, fun _ => 0, fun _ => 0, fun _ => 0, fun _ => 0, fun _ => by simp, fun _ => by simp, fun h => absurd h (by omega), fun _ => rfl⟩
    · simp [Value.cells] at hcs
      obtain ⟨rfl, rfl, rfl⟩ := hcs
      have hlm : len0 ≤ m := by rw [hmm]; simpa using hl
      obtain ⟨L, C, Ad, D0, D1, N, g1, g2, g3⟩ := fields_in (enc := enc) (spare := fun _ => true) (held := true) (w := W) (a := x) (len := len0) (fun i hi => by
        obtain ⟨cs', e1, e2⟩ := hx i (by omega)
        exact ⟨cs', n, _, e1, e2⟩)
      exact ⟨L, C, Ad, D0, D1, N, g1, g2, g3, fun h => by cases h⟩
  obtain ⟨b1, rfl, rfl, rfl⟩ := open_bool Yba.underlying4 (hval 1 4 v1 rfl rfl) h1
  obtain ⟨b2, rfl, rfl, rfl⟩ := open_bool Yba.underlying4 (hval 2 4 v2 rfl rfl) h2
  obtain ⟨b3, rfl, rfl, rfl⟩ := open_bool Yba.underlying4 (hval 3 4 v3 rfl rfl) h3
  obtain ⟨a4, len4, cap4, rfl⟩ := okWide_slice Yba.underlying23 (hval 4 23 v4 rfl rfl)
  have k4 := h4
  have lt4 : ∀ x ∈ p4, x.block < W.heap.size := by obtain ⟨m, hm⟩ := k4; exact DataW.trod_lt m _ _ _ hm
  obtain ⟨z4, w4, f4⟩ : ∃ zs : List Int, OneIn W a4 len4 (fun i => .int .u16 (zs.getD i 0)) ∧ ∀ z ∈ zs, (Lit.int .u16 z).wf = true := by
    obtain ⟨fuel, hf⟩ := h4
    rcases open_ints Yba.underlying23 Yba.underlying40 (by kernel_rfl) hf with ⟨hcs, _⟩ | ⟨x, l, c, zs, hcs, _, hl, hm, hz, _, hcell, hwz⟩
    · simp [Value.cells] at hcs
      obtain ⟨rfl, rfl, rfl⟩ := hcs
      exact ⟨[], fun h => absurd h (by omega), by simp⟩
    · simp [Value.cells] at hcs
      obtain ⟨rfl, rfl, rfl⟩ := hcs
      exact ⟨zs, ints_in hl (by simpa using hz) hcell, hwz⟩
  obtain ⟨a5, len5, cap5, rfl⟩ := okWide_slice Yba.underlying24 (hval 5 24 v5 rfl rfl)
  have k5 := h5
  have lt5 : ∀ x ∈ p5, x.block < W.heap.size := by obtain ⟨m, hm⟩ := k5; exact DataW.trod_lt m _ _ _ hm
  obtain ⟨z5, w5, n5⟩ : ∃ zs : List Int, OneIn W a5 len5 (fun i => .int .u32 (zs.getD i 0)) ∧ (a5 = none → len5 = 0) := by
    obtain ⟨fuel, hf⟩ := h5
    rcases open_ints Yba.underlying24 Yba.underlying26 (by kernel_rfl) hf with ⟨hcs, _⟩ | ⟨x, l, c, zs, hcs, _, hl, hm, hz, _, hcell, hwz⟩
    · simp [Value.cells] at hcs
      obtain ⟨rfl, rfl, rfl⟩ := hcs
      exact ⟨[], fun h => absurd h (by omega), fun _ => rfl⟩
    · simp [Value.cells] at hcs
      obtain ⟨rfl, rfl, rfl⟩ := hcs
      exact ⟨zs, ints_in hl (by simpa using hz) hcell, fun h => by cases h⟩
  clear hA0 hval0
  refine (walk a0 len0 cap0 b1 b2 b3 a4 len4 cap4 a5 len5 cap5 L C Ad D0 D1 N z4 z5 W hAd hN hfs hn0 w4 f4 w5 n5).mono fun e W' ⟨he, bel⟩ => ?_
  subst he
  exact ⟨_, rfl, _, _, _, [], _, [], hW', trodAll_mk1 (shut_bool Yba.underlying4 _), (trodAll_cons_mk (Below.trod laidOut (by kernel_rfl) (of_decide_eq_true (by kernel_rfl)) k0 bel lt0) (trodAll_cons_mk (shut_bool Yba.underlying4 _) (trodAll_cons_mk (shut_bool Yba.underlying4 _) (trodAll_cons_mk (shut_bool Yba.underlying4 _) (trodAll_cons_mk (Below.trod laidOut (by kernel_rfl) (of_decide_eq_true (by kernel_rfl)) k4 bel lt4) (trodAll_cons_mk (Below.trod laidOut (by kernel_rfl) (of_decide_eq_true (by kernel_rfl)) k5 bel lt5) trodAll_mk0)))))), rfl, bel.frame _, fun h => by cases h⟩

theorem over : Rows.lawS6319BWholeRow.holds Yba.pinned (OpenSpec.ofChange Rows.lawS6319BWholeSpec) :=
  OpenClaim.holds_of_wide 3 Yba.f3 rfl rfl rfl rfl rfl rfl rfl ⟨rfl, rfl, rfl, rfl, rfl⟩ rfl rfl rfl rfl rfl (by kernel_rfl) Yba.func3 (by kernel_rfl)
    (of_decide_eq_true (by kernel_rfl)) (by unfold Func.isWrapper; first | (rw [if_pos (by decide +kernel)]; kernel_rfl) | (rw [if_neg (by decide +kernel)]; exact ⟨rfl, rfl⟩))
    (fun os started H enc _ => lifted os started H enc)

/-- ████ THE STATEMENT ████ -/
theorem proved : Rows.LawS6319BWholeSaid := over
#print axioms proved
end Go.Proofs.Ybulkdzvo.lawS6319BWhole
