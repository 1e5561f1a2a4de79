/-
  (*field).end, (*stage).clear, (*held).reset, walked.
-/
import Derived.Test.YbulkdzvoPlain
import Derived.Test.YbulkdzvoZero
import Derived.WalkSpells
import Derived.WalkLawsBesides
import Derived.Below
import Derived.BigQuiet
import Derived.Deep.OwnRows
import Derived.Deep.RegionHeld3
import Derived.Deep.DrawnRows
import Derived.OwnWalk
namespace Go.Proofs.Ybulkdzvo
open Go.RowKit PlainB Go.Deep
attribute [local go_sem ↓] Go.wp_at_zero Go.wp_at_succ

theorem ret_int {k : IntKind} {a b : Int} (h : a = b) : Ending.returned (.int k a) = .returned (.int k b) := by rw [h]
theorem val_int {k : IntKind} {a b : Int} (h : a = b) : Value.int k a = .int k b := by rw [h]
theorem hide {p : Prop} (h : p) : Hid p := h

/-- (*field).end -/
theorem end_any (A o : Nat) (ad cn : Int) (w : World) (a0 : 0 ≤ ad) (a1 : ad ≤ 65536) (c0 : 0 ≤ cn) (c1 : cn ≤ 2)
    (h2 : w.cell? ⟨A, o + 2, none⟩ = some (.int .u32 ad)) (h5 : w.cell? ⟨A, o + 5, none⟩ = some (.int .i64 cn)) :
    Calls Yba.prog 6 #[.pointer (some ⟨A, o, none⟩)] w fun e w' => e = .returned (.int .u32 (ad + cn)) ∧ ∃ nq, w' = w.drewN nq := by
  go_enter Yba.func6, Yba.ntmps6
  go_wp2
  go_quiet (fail)
  go_wp2
  go_ret
  exact ⟨rfl, _, rfl⟩

/-- The stage's row: its data, its words. -/
def stCell (d : Nat → Int) (m : Nat → Nat) (j : Nat) : Value := if j < 65536 then .int .u8 (d j) else .int .u64 (m (j - 65536))

/-- All blocks but S are as they were. -/
def But (S : Nat) (w w' : World) : Prop := w'.os = w.os ∧ w'.tape = w.tape ∧ w'.output = w.output ∧ w'.heap.size = w.heap.size ∧ ∀ b, b ≠ S → w'.heap[b]? = w.heap[b]?

theorem But.refl (S : Nat) (w : World) : But S w w := ⟨rfl, rfl, rfl, rfl, fun _ _ => rfl⟩
theorem But.drewN {S : Nat} {w w' : World} (h : But S w w') (n : Nat) : But S w (w'.drewN n) := h
theorem But.setCell {S : Nat} {w w' : World} (h : But S w w') (j : Nat) (v : Value) : But S w (w'.setCell ⟨S, j, none⟩ v) :=
  ⟨h.1, h.2.1, h.2.2.1, by simpa [World.setCell] using h.2.2.2.1, fun b hb => by rw [Below.heap_setCell w' ⟨S, j, none⟩ v b hb]; exact h.2.2.2.2 b hb⟩
theorem But.cell {S : Nat} {w w' : World} (h : But S w w') {a : Addr} (ha : a.block ≠ S) : w'.cell? a = w.cell? a := World.cell?_of_block (h.2.2.2.2 a.block ha)

theorem _root_.Go.World.rowIs.drewN {w : World} {b t n : Nat} {f : Nat → Value} (h : w.rowIs b t n f) (k : Nat) : (w.drewN k).rowIs b t n f := h

theorem row_word {w : World} {S t : Nat} {d : Nat → Int} {m : Nat → Nat} (h : w.rowIs S t 66560 (stCell d m)) (q v : Nat) :
    (w.setCell ⟨S, 65536 + q, none⟩ (.int .u64 (v : Int))).rowIs S t 66560 (stCell d (upd m q v)) := by
  refine (h.set _ _).congr fun j _ => ?_
  unfold stCell upd
  by_cases h1 : j = 65536 + q
  · subst h1
    simp
  · rw [if_neg h1]
    split
    · rfl
    · rw [if_neg (by omega)]

theorem clr_word (x b : Nat) (hx : x < 18446744073709551616) (hb : b < 64) : bits .andNot .u64 (x : Int) (IntKind.u64.wrap (2 ^ b)) = ((x &&& (18446744073709551615 - 2 ^ b) : Nat) : Int) := by
  have hp : 2 ^ b < 2 ^ 64 := Nat.pow_lt_pow_right (by decide) hb
  have e : IntKind.u64.wrap ((2 : Int) ^ b) = ((2 ^ b : Nat) : Int) := by
    have e1 : (2 : Int) ^ b = ((2 ^ b : Nat) : Int) := by simp
    rw [IntKind.wrap_u64, e1]
    generalize (2 ^ b : Nat) = p at hp ⊢
    omega
  rw [e, bits_andNot_u64_nat _ _ hx (by omega)]

theorem none_clear (P : Nat → Bool) (ad j : Nat) : P j = (P j && !(decide (ad ≤ j) && decide (j < ad + 0))) := by
  have : (decide (ad ≤ j) && decide (j < ad + 0)) = false := by
    rw [Bool.and_eq_false_iff]
    simp
    omega
  rw [this]
  simp

theorem more_clear (P : Nat → Bool) (ad k j : Nat) : ((P j && !(decide (ad ≤ j) && decide (j < ad + k))) && j != ad + k) = (P j && !(decide (ad ≤ j) && decide (j < ad + (k + 1)))) := by
  rw [Bool.and_assoc]
  congr 1
  rw [Bool.eq_iff_iff]
  simp
  omega

set_option maxHeartbeats 1000000 in
theorem clear_any (S A o : Nat) (ad cn : Nat) (d : Nat → Int) (m : Nat → Nat) (P : Nat → Bool) (w : World) (a1 : ad + cn ≤ 65536) (c1 : cn ≤ 2) (hSA : A ≠ S)
    (h2 : w.cell? ⟨A, o + 2, none⟩ = some (.int .u32 ad)) (h5 : w.cell? ⟨A, o + 5, none⟩ = some (.int .i64 cn))
    (hrow : w.rowIs S 39 66560 (stCell d m)) (hbits : Bits m P) :
    Calls Yba.prog 5 #[.pointer (some ⟨S, 0, none⟩), .pointer (some ⟨A, o, none⟩)] w fun e w' => e = .returned (.tuple #[]) ∧ But S w w' ∧ ∃ m', w'.rowIs S 39 66560 (stCell d m') ∧ Bits m' (fun j => P j && !(decide (ad ≤ j) && decide (j < ad + cn))) := by
  have HR := hide hrow
  have HB := hide hbits
  clear hrow hbits
  go_enter Yba.func5, Yba.ntmps5
  go_wp2
  go_loopw [4] (fun a wr => ∃ k : Nat, k ≤ cn ∧ a = .int .u32 ((ad : Int) + k) ∧ Hid (But S w wr) ∧ Hid (∃ m', wr.rowIs S 39 66560 (stCell d m') ∧ Bits m' (fun j => P j && !(decide (ad ≤ j) && decide (j < ad + k))))) (fun a _ => ad + cn - (intOf a).toNat)
  case atStart => exact ⟨0, by omega, val_int (by omega), But.refl _ _, m, HR.out, bits_congr HB.out fun a _ => none_clear P ad a⟩
  case round =>
    obtain ⟨k, hk, rfl, HW, HM⟩ := hrel
    have y2 : wr.cell? ⟨A, o + 2, none⟩ = some (.int .u32 ad) := by rw [HW.out.cell hSA]; exact h2
    have y5 : wr.cell? ⟨A, o + 5, none⟩ = some (.int .i64 cn) := by rw [HW.out.cell hSA]; exact h5
    by_cases hlt : k < cn
    · obtain ⟨m', hr', hb'⟩ := HM.out
      have hq : (ad + k) / 64 < 1024 := by omega
      obtain ⟨q, hqe⟩ : ∃ q, (ad + k) / 64 = q := ⟨_, rfl⟩
      obtain ⟨b, hbe⟩ : ∃ b, (ad + k) % 64 = b := ⟨_, rfl⟩
      have x1 : wr.cell? ⟨S, 65536 + q, none⟩ = some (.int .u64 (m' q)) := by
        have := hr'.cell (i := 65536 + q) (by omega)
        rw [this]
        simp [stCell]
      have x2 : wr.frozen? ⟨S, 65536 + q, none⟩ = false := hr'.frozen _
      have e1 : ((ad : Int) + k) / 64 = (q : Int) := by omega
      have e2 : ((ad : Int) + k) % 64 = (b : Int) := by omega
      have hq1 : (q : Int) < 1024 := by omega
      have hb1 : b < 64 := by omega
      have i1 : (ad : Int) + k < ad + cn := by omega
      go_wp2_with (go_at_call 6; refine (end_any _ _ _ _ _ (by omega) (by omega) (by omega) (by omega) y2 y5).mono ?_; rintro e w' ⟨rfl, nq, rfl⟩)
      have ev := clr_word (m' q) b (hb'.1 q) hb1
      go_region
      go_wp2
      refine ⟨⟨k + 1, by omega, val_int (by omega), (HW.out.drewN _).setCell _ _, _, row_word (hr'.drewN _) q _, ?_⟩, by simp [intOf]; omega⟩
      have := bits_clr hb' (ad + k)
      rw [hqe, hbe] at this
      exact bits_congr this fun j _ => more_clear P ad k j
    · obtain rfl : k = cn := by omega
      have i1 : ¬ (ad : Int) + k < ad + k := by omega
      go_wp2_with (go_at_call 6; refine (end_any _ _ _ _ _ (by omega) (by omega) (by omega) (by omega) y2 y5).mono ?_; rintro e w' ⟨rfl, nq, rfl⟩)
      go_end0
      exact ⟨rfl, HW.out, HM.out⟩

/-- The cells of a held. -/
def heldC (v0 : Value) (b1 : Bool) (v2 : Value) (b3 : Bool) (v4 : Value) : Nat → Value
  | 0 => v0
  | 1 => .bool b1
  | 2 => v2
  | 3 => .bool b3
  | _ => v4

theorem heldC_cells {w : World} {H : Nat} {v0 : Value} {b1 : Bool} {v2 : Value} {b3 : Bool} {v4 : Value} (h : w.rowIs H 50 5 (heldC v0 b1 v2 b3 v4)) :
    w.cell? ⟨H, 0, none⟩ = some v0 ∧ w.cell? ⟨H, 1, none⟩ = some (.bool b1) ∧ w.cell? ⟨H, 2, none⟩ = some v2 ∧ w.cell? ⟨H, 3, none⟩ = some (.bool b3) ∧ w.cell? ⟨H, 4, none⟩ = some v4 ∧
      w.frozen? ⟨H, 0, none⟩ = false ∧ w.frozen? ⟨H, 1, none⟩ = false ∧ w.frozen? ⟨H, 3, none⟩ = false :=
  ⟨h.cell (i := 0) (by omega), h.cell (i := 1) (by omega), h.cell (i := 2) (by omega), h.cell (i := 3) (by omega), h.cell (i := 4) (by omega), h.frozen _, h.frozen _, h.frozen _⟩

theorem heldC_set {w : World} {H : Nat} {v0 u0 : Value} {b1 c1 : Bool} {v2 : Value} {b3 c3 : Bool} {v4 : Value} (h : w.rowIs H 50 5 (heldC v0 b1 v2 b3 v4)) :
    (((w.setCell ⟨H, 0, none⟩ u0).setCell ⟨H, 1, none⟩ (.bool c1)).setCell ⟨H, 3, none⟩ (.bool c3)).rowIs H 50 5 (heldC u0 c1 v2 c3 v4) := by
  refine (((h.set _ _).set _ _).set _ _).congr fun j hj => ?_
  match j, hj with
  | 0, _ => rfl
  | 1, _ => rfl
  | 2, _ => rfl
  | 3, _ => rfl
  | 4, _ => rfl

theorem slice_zero (a : Option Addr) (n : Nat) (w : World) : (Instr.slice 25 (.slice a n n) none (some (.int .i64 0)) none).run Yba.prog w = .ok (.slice a 0 n) w := by
  obtain ⟨t, ht, hz⟩ := Option.map_eq_some_iff.1 (show (Yba.prog.info? 33).map (·.size) = some 6 by kernel_rfl)
  cases a <;> simp [Instr.slice, Instr.sliceBounds, Instr.sliceBound, run_underlying Yba.underlying25, asIntOf, sizeOf, typeInfo, ht, Addr.add]

set_option maxHeartbeats 1000000 in
/-- (*held).reset, nothing staged. -/
theorem reset_plain (H n : Nat) (a : Option Addr) (st : Option Addr) (df : Bool) (rv : Value) (w : World) (h : w.rowIs H 50 5 (heldC (.slice a n n) false (.pointer st) df rv)) :
    Calls Yba.prog 4 #[.pointer (some ⟨H, 0, none⟩)] w fun e w' => e = .returned (.tuple #[]) ∧ But H w w' ∧ w'.rowIs H 50 5 (heldC (.slice a 0 n) false (.pointer st) false rv) := by
  obtain ⟨h0, h1, h2, h3, h4, f0, f1, f3⟩ := heldC_cells h
  have HR := hide h
  have hsl := slice_zero a n
  clear h
  go_enter Yba.func4, Yba.ntmps4
  go_wp2
  go_end0
  exact ⟨rfl, (((But.refl _ _).setCell _ _).setCell _ _).setCell _ _, heldC_set HR.out⟩

/-- j lies in one of the first k fields. -/
def Cl (ad cn : Nat → Nat) (k j : Nat) : Bool := (List.range k).any fun i => decide (ad i ≤ j) && decide (j < ad i + cn i)

theorem Cl_succ (ad cn : Nat → Nat) (k j : Nat) : Cl ad cn (k + 1) j = (Cl ad cn k j || (decide (ad k ≤ j) && decide (j < ad k + cn k))) := by
  unfold Cl
  rw [List.range_succ, List.any_append]
  simp

theorem Cl_zero (ad cn : Nat → Nat) (j : Nat) : Cl ad cn 0 j = false := rfl

theorem But.trans {S : Nat} {a b c : World} (h : But S a b) (k : But S b c) : But S a c :=
  ⟨k.1.trans h.1, k.2.1.trans h.2.1, k.2.2.1.trans h.2.2.1, k.2.2.2.1.trans h.2.2.2.1, fun i hi => (k.2.2.2.2 i hi).trans (h.2.2.2.2 i hi)⟩
theorem But.row {S : Nat} {w w' : World} (h : But S w w') {b t n : Nat} {f : Nat → Value} (hr : w.rowIs b t n f) (hb : b ≠ S) : w'.rowIs b t n f := hr.of_block (h.2.2.2.2 b hb)

set_option maxHeartbeats 2000000 in
/-- (*held).reset, staged. -/
theorem reset_staged (H S n : Nat) (a : Option Addr) (df : Bool) (rv : Value) (ad cn : Nat → Nat) (d : Nat → Int) (m : Nat → Nat) (P : Nat → Bool) (w : World) (hn : n ≤ 1048576)
    (hHS : H ≠ S) (hac : ∀ i, ad i + cn i ≤ 65536) (hc2 : ∀ i, cn i ≤ 2)
    (hin : 0 < n → ∃ A, a = some ⟨A, 0, none⟩ ∧ A ≠ S ∧ ∀ i, i < n → w.cell? ⟨A, i * 6 + 2, none⟩ = some (.int .u32 (ad i)) ∧ w.cell? ⟨A, i * 6 + 5, none⟩ = some (.int .i64 (cn i)))
    (h : w.rowIs H 50 5 (heldC (.slice a n n) true (.pointer (some ⟨S, 0, none⟩)) df rv)) (hrow : w.rowIs S 39 66560 (stCell d m)) (hbits : Bits m P) :
    Calls Yba.prog 4 #[.pointer (some ⟨H, 0, none⟩)] w fun e w' => e = .returned (.tuple #[]) ∧ ∃ w1, But S w w1 ∧ But H w1 w' ∧ w'.rowIs H 50 5 (heldC (.slice a 0 n) false (.pointer (some ⟨S, 0, none⟩)) false rv) ∧
      ∃ m', w'.rowIs S 39 66560 (stCell d m') ∧ Bits m' (fun j => P j && !Cl ad cn n j) := by
  obtain ⟨h0, h1, h2, h3, h4, f0, f1, f3⟩ := heldC_cells h
  have HH := hide h
  have HR := hide hrow
  have HB := hide hbits
  have HIN := hide hin
  have HAC := hide hac
  have HC2 := hide hc2
  have hsl := slice_zero a n
  clear h hrow hbits hin hac hc2
  go_enter Yba.func4, Yba.ntmps4
  go_wp2
  go_loopw [12] (fun x wr => ∃ k : Nat, k ≤ n ∧ x = .int .i64 k ∧ Hid (But S w wr) ∧ Hid (∃ m', wr.rowIs S 39 66560 (stCell d m') ∧ Bits m' (fun j => P j && !Cl ad cn k j))) (fun x _ => n - (intOf x).toNat)
  case atStart => exact ⟨0, by omega, rfl, But.refl _ _, m, HR.out, bits_congr HB.out fun j _ => by simp [Cl_zero]⟩
  case round =>
    obtain ⟨k, hk, rfl, HW, HM⟩ := hrel
    by_cases hlt : k < n
    · obtain ⟨A, rfl, hAS, hcA⟩ := HIN.out (by omega)
      obtain ⟨c2, c5⟩ := hcA k hlt
      obtain ⟨m', hr', hb'⟩ := HM.out
      have HC2' := hide c2
      have HC5' := hide c5
      have HRR := hide hr'
      have HBB := hide hb'
      have y0 : wr.cell? ⟨H, 0, none⟩ = some (.slice (some ⟨A, 0, none⟩) n n) := by rw [HW.out.cell hHS]; exact h0
      have y2 : wr.cell? ⟨H, 2, none⟩ = some (.pointer (some ⟨S, 0, none⟩)) := by rw [HW.out.cell hHS]; exact h2
      have i1 : (k : Int) < n := by omega
      clear h0 h1 h2 h3 h4 f0 f1 f3 hcA c2 c5 hr' hb' hsl
      go_wp2
      go_region_held3 (fun w' => w'.cell? ⟨H, 0, none⟩ = some (.slice (some ⟨A, 0, none⟩) n n) ∧ w'.cell? ⟨H, 2, none⟩ = some (.pointer (some ⟨S, 0, none⟩))) (first | exact ⟨by assumption, by assumption⟩ | go_keep)
        ((go_at_call 5; refine (clear_any S A (k * 6) (ad k) (cn k) d m' (fun j => P j && !Cl ad cn k j) _ (HAC.out k) (HC2.out k) hAS ?_ ?_ ?_ HBB.out).mono ?_; exact (HW.out.cell hAS).trans HC2'.out; exact (HW.out.cell hAS).trans HC5'.out; exact HRR.out.drew; rintro e w' ⟨rfl, hbut, hm'⟩; have z0 : w'.cell? ⟨H, 0, none⟩ = some (.slice (some ⟨A, 0, none⟩) n n) := (hbut.cell hHS).trans y0; have z2 : w'.cell? ⟨H, 2, none⟩ = some (.pointer (some ⟨S, 0, none⟩)) := (hbut.cell hHS).trans y2))
      have HBUT := hide hbut
      have HM' := hide hm'
      clear hbut hm'
      go_wp2
      obtain ⟨m2, hr2, hb2⟩ := HM'.out
      exact ⟨⟨k + 1, by omega, val_int (by omega), HW.out.trans HBUT.out, m2, hr2, bits_congr hb2 fun j _ => by rw [Cl_succ, Bool.not_or, Bool.and_assoc]⟩, by simp [intOf]; omega⟩
    · obtain rfl : k = n := by omega
      have y0 : wr.cell? ⟨H, 0, none⟩ = some (.slice a k k) := by rw [HW.out.cell hHS]; exact h0
      have y1 : wr.cell? ⟨H, 1, none⟩ = some (.bool true) := by rw [HW.out.cell hHS]; exact h1
      have y3 : wr.cell? ⟨H, 3, none⟩ = some (.bool df) := by rw [HW.out.cell hHS]; exact h3
      have hr := HW.out.row HH.out hHS
      have g0 : wr.frozen? ⟨H, 0, none⟩ = false := hr.frozen _
      have g1 : wr.frozen? ⟨H, 1, none⟩ = false := hr.frozen _
      have g3 : wr.frozen? ⟨H, 3, none⟩ = false := hr.frozen _
      have HR' := hide hr
      clear hr h0 h1 h2 h3 h4 f0 f1 f3
      have i1 : ¬ (k : Int) < k := by omega
      go_wp2
      go_end0
      obtain ⟨m', hr', hb'⟩ := HM.out
      exact ⟨rfl, wr, HW.out, (((But.refl _ _).setCell _ _).setCell _ _).setCell _ _, heldC_set HR'.out, m', ((hr'.setOther (Ne.symm hHS) _).setOther (Ne.symm hHS) _).setOther (Ne.symm hHS) _, hb'⟩

end Go.Proofs.Ybulkdzvo
