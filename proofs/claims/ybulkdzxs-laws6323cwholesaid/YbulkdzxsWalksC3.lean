/-
  LawS6323CWhole, walked.
-/
import Derived.Test.YbulkdzxsWalksC2
namespace Go.Proofs.Ybulkdzxs
open Go.RowKit PlainA PlainC Go.Deep
attribute [local go_sem ↓] Go.wp_at_zero Go.wp_at_succ

theorem wpList_append_run {P : Program} {w w' : World} {ops : Array Oper} {rest : List Oper} {o : Oper} {a : Act} {Q : Exit → Act → World → Prop} (hgd : o.guard = none) (s x : Operand) (t : TypeId)
    (ho : o.op = .call { callee := .builtin .append, args := #[s, x], argTypes := #[t, t] }) (vs vx v : Value) (hs : a.eval s = vs) (hx : a.eval x = vx)
    (hrun : (Builtin.append_ #[t, t] o.type #[vs, vx]).run P w = .ok v w') (h : wpList P ops Q rest (a.put o.dst v) w') : wpList P ops Q (o :: rest) a w := by
  refine wpList_plain hgd fun K hK => ?_
  unfold Oper.wp
  simp [execOp, ho, resolve, invoke, builtin, hs, hx, hrun, Result.andThen]
  exact hK _ _ h

theorem cells_of {w : World} {g o n : Nat} {zs : List Int} (h : Lib.BytesIn w (some ⟨g, o, none⟩) n zs) : ∀ j, j < n → w.cell? ⟨g, o + j, none⟩ = some (.int .u8 (zs.getD j 0)) := by
  intro j hj
  obtain ⟨b, p, he, hc⟩ := h (by omega)
  cases he
  exact hc j hj

theorem shr_byte (a : Int) (k : Nat) (h0 : 0 ≤ a) (h1 : a ≤ 255) : 0 ≤ a / 2 ^ k ∧ a / 2 ^ k ≤ 255 := by
  have hp : (0 : Int) < 2 ^ k := Int.pow_pos (by decide)
  have := Int.ediv_le_self (2 ^ k) h0
  exact ⟨Int.ediv_nonneg h0 (by omega), by omega⟩

theorem bits_more {zs ys : List Int} {j : Nat} (h : ∀ i, i < j → bitAt zs i = bitAt ys i) (e : bitAt zs j = bitAt ys j) : ∀ i, i < j + 1 → bitAt zs i = bitAt ys i := by
  intro i hi
  by_cases g : i < j
  · exact h i g
  · obtain rfl : i = j := by omega
    exact e

theorem xor_byte (y z : Int) : 0 ≤ bits .xor .u8 y z ∧ bits .xor .u8 y z ≤ 255 := by
  have e : bits .xor .u8 y z = IntKind.u8.wrap ((BitVec.ofInt 8 y ^^^ BitVec.ofInt 8 z).toNat : Int) := rfl
  rw [e]
  simp [IntKind.wrap, IntKind.bits, IntKind.signed]
  omega

set_option maxHeartbeats 4000000 in
theorem lawC_zero (a0 : Option Addr) (c : Nat) (a1 : Option Addr) (m cf : Nat) (a2 : Option Addr) (e c2 : Nat) (es : List Int) (w : World) (hm : m ≤ 1048576) (he : e ≤ 1048576)
    (hes : es.length = e) (ha2 : a2 = none → e = 0) (hev : Lib.BytesIn w a2 e es) (heb : ∀ i, 0 ≤ es.getD i 0 ∧ es.getD i 0 ≤ 255) :
    Calls Yba.prog 5 #[.slice a0 0 c, .slice a1 m cf, .slice a2 e c2] w fun r w' => r = .returned (.bool true) ∧ Below w.heap.size w w' := by
  have HE := hide hev
  have HES := hide hes
  have HA2 := hide ha2
  have HEB := hide heb
  have hmk : ∀ w : World, (Instr.makeSlice 22 (.int .i64 0) (.int .i64 (e : Int))).run Yba.prog w = .ok (.slice (some ⟨w.heap.size, 0, none⟩) 0 e) (w.alloc (.cells (madeCells #[.int .u8 0] e) 5)) := fun w => by
    have := make_cap 0 e (by omega) he w
    simpa using this
  have hcp : ∀ (w : World) (d : Option Addr) (k : Nat), (Builtin.copy_ #[22, 22] 3 #[.slice d 0 k, .slice a0 0 c]).run Yba.prog w = .ok (.int .i64 0) w := fun w d k => run_copy_none (P := Yba.prog) w 22 22 3 5 d a0 0 k 0 c Yba.underlying22 (by kernel_rfl) (by simp)
  clear hev hes ha2 heb
  go_enter Yba.func5, Yba.ntmps5
  go_wp2_with fail
  refine (clone_any _ 0 _ [] _ rfl (by omega) (Lib.BytesIn.nil _ _ _) (fun _ => rfl)).mono ?_
  rintro r w1 ⟨pv, dv, rfl, hbv, hb1⟩
  have hown := own_made w1 e
  obtain ⟨w3, ys3, hap, hown3⟩ := append_own (n := 0) (e := e) (by rw [Nat.zero_add]; exact hown) a2 c2 es HES.out HA2.out (bin_keep (bin_keep HE.out hb1) hown.2.2.2) HEB.out
  rw [Nat.zero_add] at hap hown3
  have HO3 := hide hown3
  have HAP := hide hap
  have HB1 := hide hb1
  clear hown3 hap hown hb1 hbv
  go_wp2_with (at_builtin; refine wpList_append_run rfl _ _ 22 rfl _ _ _ (by rfl) (by rfl) HAP.out ?_)
  refine (clone_any _ _ _ ys3 _ HO3.out.1 (by omega) HO3.out.bin (by simp)).mono ?_
  rintro r w4 ⟨pw, dw, rfl, hbw, hb4⟩
  have hww : Lib.BytesIn w4 (some ⟨w1.heap.size, 0, none⟩) e ys3 := bin_keep HO3.out.bin hb4
  have hbel : Below w.heap.size w w4 := (HB1.out.trans (HO3.out.2.2.2.mono HB1.out.size)).trans (hb4.mono (Nat.le_trans HB1.out.size HO3.out.2.2.2.size))
  have HWW := hide hww
  have HBW := hide hbw
  have HBEL := hide hbel
  have HY := hide HO3.out.1
  have hbq1 : (Lib.bytesOf [] == Lib.bytesOf []) = true := by simp
  have hbq2 : (Lib.bytesOf ys3 == Lib.bytesOf ys3) = true := by simp
  clear hww hbw hbel hb4 HO3 HB1 HE HEB HES HA2 HAP hmk hcp
  go_wp2_with fail
  refine (fd_zero _ _ _ _ _ _).mono ?_
  rintro r w5 ⟨rfl, rfl⟩
  go_wp2_with fail
  refine wp_loop_rounds 1 ?_
  rw [rounds_succ]
  go_wp2_with fail
  refine (Yba.bytes_Equal_all _ _ _ _ _ _ [] [] _ rfl rfl (Lib.BytesIn.nil _ _ _) (Lib.BytesIn.nil _ _ _)).mono ?_
  rw [hbq1]
  rintro r' w6 ⟨rfl, rfl⟩
  go_wp2_with fail
  refine (Yba.bytes_Equal_all _ _ _ _ _ _ ys3 ys3 _ HY.out HY.out HWW.out HBW.out).mono ?_
  rw [hbq2]
  rintro r' w6 ⟨rfl, rfl⟩
  go_wp2
  go_ret
  exact ⟨rfl, HBEL.out⟩

theorem lawC_long (a0 a1 a2 : Option Addr) (n c m d e f : Nat) (w : World) (h : 1048576 < n ∨ 1048576 < m ∨ 1048576 < e) :
    Calls Yba.prog 5 #[.slice a0 n c, .slice a1 m d, .slice a2 e f] w fun r w' => r = .returned (.bool true) ∧ Below w.heap.size w w' := by
  by_cases h1 : 1048576 < n
  · have h1' : (1048576 : Int) < n := by omega
    go_enter Yba.func5, Yba.ntmps5
    go_wp2
    go_ret
    exact ⟨rfl, Below.refl _ _⟩
  · have h1' : ¬ (1048576 : Int) < n := by omega
    by_cases h2 : 1048576 < m
    · have h2' : (1048576 : Int) < m := by omega
      go_enter Yba.func5, Yba.ntmps5
      go_wp2
      go_ret
      exact ⟨rfl, Below.refl _ _⟩
    · have h2' : ¬ (1048576 : Int) < m := by omega
      have h3' : (1048576 : Int) < e := by omega
      go_enter Yba.func5, Yba.ntmps5
      go_wp2
      go_ret
      exact ⟨rfl, Below.refl _ _⟩

set_option maxHeartbeats 4000000 in
theorem lawC_none (g o n c : Nat) (a1 : Option Addr) (cf : Nat) (a2 : Option Addr) (e c2 : Nat) (zs es : List Int) (w : World) (h0 : 0 < n) (hn : n ≤ 1048576) (he : e ≤ 1048576)
    (hz : zs.length = n) (hv : Lib.BytesIn w (some ⟨g, o, none⟩) n zs) (hzb : ∀ i, 0 ≤ zs.getD i 0 ∧ zs.getD i 0 ≤ 255)
    (hes : es.length = e) (ha2 : a2 = none → e = 0) (hev : Lib.BytesIn w a2 e es) (heb : ∀ i, 0 ≤ es.getD i 0 ∧ es.getD i 0 ≤ 255) :
    Calls Yba.prog 5 #[.slice (some ⟨g, o, none⟩) n c, .slice a1 0 cf, .slice a2 e c2] w fun r w' => r = .returned (.bool true) ∧ Below w.heap.size w w' := by
  have HV := hide hv
  have HE := hide hev
  have HZ := hide hz
  have HZB := hide hzb
  have HES := hide hes
  have HA2 := hide ha2
  have HEB := hide heb
  have hmk := fun w => make_cap n e hn he w
  have hsum : IntKind.i64.wrap ((n : Int) + (e : Int)) = n + e := by rw [IntKind.wrap_i64]; omega
  clear hv hev hz hzb hes ha2 heb
  have n0 : (0 : Int) < n := by omega
  go_enter Yba.func5, Yba.ntmps5
  go_wp2_with fail
  refine (clone_any _ _ _ zs _ HZ.out (by omega) HV.out (by simp)).mono ?_
  rintro r w1 ⟨pv, dv, rfl, hbv, hb1⟩
  obtain ⟨w2, ys2, hcp, hown2⟩ := copy_own (own_made w1 (n + e)) (some ⟨g, o, none⟩) n c zs HZ.out (by omega) (bin_keep (bin_keep HV.out hb1) ((Below.refl _ _).alloc (Nat.le_refl _) _)) HZB.out
  have HBV := hide hbv
  have HB1 := hide hb1
  have HO2 := hide hown2
  clear hbv hb1 hown2
  go_wp2_with fail
  clear hmk hcp hsum
  refine wp_loop_rounds 1 ?_
  rw [rounds_succ]
  obtain ⟨w3, ys3, hap, hown3⟩ := append_own HO2.out a2 c2 es HES.out HA2.out (bin_keep (bin_keep HE.out HB1.out) HO2.out.2.2.2) HEB.out
  have HO3 := hide hown3
  have HAP := hide hap
  clear hown3 hap
  go_wp2_with (at_builtin; refine wpList_append_run rfl _ _ 22 rfl _ _ _ (by rfl) (by rfl) HAP.out ?_)
  refine (clone_any _ _ _ ys3 _ HO3.out.1 (by omega) HO3.out.bin (by simp)).mono ?_
  rintro r w4 ⟨pw, dw, rfl, hbw, hb4⟩
  have hvw : Lib.BytesIn w4 (some ⟨g, o, none⟩) n zs := bin_keep (bin_keep (bin_keep HV.out HB1.out) HO3.out.2.2.2) hb4
  have hvc : Lib.BytesIn w4 pv n zs := bin_keep (bin_keep HBV.out HO3.out.2.2.2) hb4
  have hww : Lib.BytesIn w4 (some ⟨w1.heap.size, 0, none⟩) (n + e) ys3 := bin_keep HO3.out.bin hb4
  have hbel : Below w.heap.size w w4 := (HB1.out.trans (HO3.out.2.2.2.mono HB1.out.size)).trans (hb4.mono (Nat.le_trans HB1.out.size HO3.out.2.2.2.size))
  have HVW := hide hvw
  have HVC := hide hvc
  have HWW := hide hww
  have HBW := hide hbw
  have HBEL := hide hbel
  have HY := hide HO3.out.1
  have HYB := hide HO3.out.2.1
  clear hvw hvc hww hbw hbel hb4 HO3 HO2 HBV HB1 HE HEB HES HA2 HAP
  go_wp2_with fail
  refine (fd_some g o n c w1.heap.size 0 (n + e) (n + e) zs ys3 _ hn (by omega) ?_ ?_ HZB.out HYB.out).mono ?_
  · exact cells_of HVW.out
  · exact fun j hj => cells_of HWW.out j (by omega)
  rintro r w5 ⟨⟨r, rfl, hfirst⟩, nq, rfl⟩
  have HFI := hide hfirst
  clear hfirst
  go_wp2_with fail
  have hbq1 : (Lib.bytesOf zs == Lib.bytesOf zs) = true := by simp
  have hbq2 : (Lib.bytesOf ys3 == Lib.bytesOf ys3) = true := by simp
  go_loopw [14, 15] (fun a b wr => ∃ j q : Nat, j ≤ 8 * n ∧ a = .int .i64 (-1) ∧ b = .int .i64 j ∧ wr = w4.drewN q ∧ Hid (∀ i, i < j → bitAt zs i = bitAt ys3 i)) (fun _ b _ => 8 * n - (intOf b).toNat)
  case atStart => exact ⟨0, nq, by omega, rfl, rfl, rfl, fun i hi => by omega⟩
  case round =>
    obtain ⟨j, q, hj, rfl, rfl, rfl, HP⟩ := hrel
    by_cases hjn : j < 8 * n
    · obtain ⟨i, hi⟩ : ∃ i, j / 8 = i := ⟨_, rfl⟩
      obtain ⟨t, ht⟩ : ∃ t, j % 8 = t := ⟨_, rfl⟩
      have x1 := cells_of HVW.out i (by omega)
      have x2 := cells_of HWW.out i (by omega)
      rw [Nat.zero_add] at x2
      have b1 := HZB.out i
      have b2 := HYB.out i
      have hbz : bitAt zs j = zs.getD i 0 / 2 ^ (7 - t) % 2 := by unfold bitAt; rw [hi, ht]
      have hby : bitAt ys3 j = ys3.getD i 0 / 2 ^ (7 - t) % 2 := by unfold bitAt; rw [hi, ht]
      obtain ⟨a, ha⟩ : ∃ a, zs.getD i 0 = a := ⟨_, rfl⟩
      obtain ⟨b, hb⟩ : ∃ b, ys3.getD i 0 = b := ⟨_, rfl⟩
      rw [ha] at x1 b1 hbz
      rw [hb] at x2 b2 hby
      have d1 : 0 ≤ a / 2 ^ (7 - t) ∧ a / 2 ^ (7 - t) ≤ 255 := shr_byte a (7 - t) b1.1 b1.2
      have d2 : 0 ≤ b / 2 ^ (7 - t) ∧ b / 2 ^ (7 - t) ≤ 255 := shr_byte b (7 - t) b2.1 b2.2
      have e1 : bits .and .u8 (a / 2 ^ (7 - t)) 1 = bitAt zs j := by rw [and_one_u8 _ d1.1 d1.2, hbz]
      have e2 : bits .and .u8 (b / 2 ^ (7 - t)) 1 = bitAt ys3 j := by rw [and_one_u8 _ d2.1 d2.2, hby]
      have hi' : (j : Int) / 8 = (i : Int) := by omega
      have ht' : (j : Int) % 8 = (t : Int) := by omega
      have ht8 : t < 8 := by omega
      have i1 : (i : Int) < n := by omega
      have i2 : (i : Int) < n + e := by omega
      have i3 : (j : Int) < 8 * (n : Int) := by omega
      obtain ⟨u, hu⟩ : ∃ u, bitAt zs j = u := ⟨_, rfl⟩
      obtain ⟨v, hv⟩ : ∃ v, bitAt ys3 j = v := ⟨_, rfl⟩
      rw [hu] at e1
      rw [hv] at e2
      have HU := hide hu
      have HVV := hide hv
      obtain ⟨b10, b11⟩ := b1
      obtain ⟨b20, b21⟩ := b2
      clear hi ht ha hb hbz hby d1 d2 hu hv
      by_cases huv : u = v
      · have huv' : (u != v) = false := by simp [huv]
        have HUV := hide huv
        clear huv
        go_wp2
        go_quiet (fail)
        go_wp2
        exact ⟨⟨j + 1, q + nq, by omega, rfl, val_int (by omega), rfl, bits_more HP.out (by rw [HU.out, HVV.out]; exact HUV.out)⟩, by simp [intOf]; omega⟩
      · have huv' : (u != v) = true := by simp [huv]
        have hrj : (r == (j : Int)) = true := by
          have := HFI.out.unique (Or.inr ⟨j, hjn, rfl, by rw [HU.out, HVV.out]; exact huv, HP.out⟩)
          simp [this]
        clear huv
        go_wp2
        go_quiet (fail)
        go_wp2_with fail
        refine (Yba.bytes_Equal_all _ _ _ _ _ _ zs zs _ HZ.out HZ.out (bin_drewN HVW.out _) (bin_drewN HVC.out _)).mono ?_
        rw [hbq1]
        rintro r' w6 ⟨rfl, rfl⟩
        go_wp2_with fail
        refine (Yba.bytes_Equal_all _ _ _ _ _ _ ys3 ys3 _ HY.out HY.out (bin_drewN HWW.out _) (bin_drewN HBW.out _)).mono ?_
        rw [hbq2]
        rintro r' w6 ⟨rfl, rfl⟩
        go_wp2
        go_ret
        exact ⟨rfl, below_drewN HBEL.out _⟩
    · have hj' : ¬ (j : Int) < 8 * (n : Int) := by omega
      have hrj : (r == (-1 : Int)) = true := by
        have := HFI.out.unique (Or.inl ⟨rfl, fun i hi => HP.out i (by omega)⟩)
        simp [this]
      go_wp2_with fail
      refine (Yba.bytes_Equal_all _ _ _ _ _ _ zs zs _ HZ.out HZ.out (bin_drewN HVW.out _) (bin_drewN HVC.out _)).mono ?_
      rw [hbq1]
      rintro r' w6 ⟨rfl, rfl⟩
      go_wp2_with fail
      refine (Yba.bytes_Equal_all _ _ _ _ _ _ ys3 ys3 _ HY.out HY.out (bin_drewN HWW.out _) (bin_drewN HBW.out _)).mono ?_
      rw [hbq2]
      rintro r' w6 ⟨rfl, rfl⟩
      go_wp2
      go_ret
      exact ⟨rfl, below_drewN HBEL.out _⟩

set_option maxHeartbeats 4000000 in
theorem lawC_flips (g o n c gf fo m cf : Nat) (a2 : Option Addr) (e c2 : Nat) (zs fs es : List Int) (w : World) (h0 : 0 < n) (hn : n ≤ 1048576) (hm0 : 0 < m) (hm : m ≤ 1048576) (he : e ≤ 1048576)
    (hz : zs.length = n) (hv : Lib.BytesIn w (some ⟨g, o, none⟩) n zs) (hzb : ∀ i, 0 ≤ zs.getD i 0 ∧ zs.getD i 0 ≤ 255)
    (hf : ∀ j, j < m → w.cell? ⟨gf, fo + j, none⟩ = some (.int .u16 (fs.getD j 0))) (hfb : ∀ i, 0 ≤ fs.getD i 0 ∧ fs.getD i 0 ≤ 65535)
    (hes : es.length = e) (ha2 : a2 = none → e = 0) (hev : Lib.BytesIn w a2 e es) (heb : ∀ i, 0 ≤ es.getD i 0 ∧ es.getD i 0 ≤ 255) :
    Calls Yba.prog 5 #[.slice (some ⟨g, o, none⟩) n c, .slice (some ⟨gf, fo, none⟩) m cf, .slice a2 e c2] w fun r w' => r = .returned (.bool true) ∧ Below w.heap.size w w' := by
  have HV := hide hv
  have HE := hide hev
  have HF := hide hf
  have HZ := hide hz
  have HZB := hide hzb
  have HFB := hide hfb
  have HES := hide hes
  have HA2 := hide ha2
  have HEB := hide heb
  have hmk := fun w => make_cap n e hn he w
  have hsum : IntKind.i64.wrap ((n : Int) + (e : Int)) = n + e := by rw [IntKind.wrap_i64]; omega
  clear hv hev hf hz hzb hfb hes ha2 heb
  have n0 : (0 : Int) < n := by omega
  go_enter Yba.func5, Yba.ntmps5
  go_wp2_with fail
  refine (clone_any _ _ _ zs _ HZ.out (by omega) HV.out (by simp)).mono ?_
  rintro r w1 ⟨pv, dv, rfl, hbv, hb1⟩
  obtain ⟨w2, ys2, hcp, hown2⟩ := copy_own (own_made w1 (n + e)) (some ⟨g, o, none⟩) n c zs HZ.out (by omega) (bin_keep (bin_keep HV.out hb1) ((Below.refl _ _).alloc (Nat.le_refl _) _)) HZB.out
  have HBV := hide hbv
  have HB1 := hide hb1
  have HO2 := hide hown2
  clear hbv hb1 hown2
  go_wp2_with fail
  clear hmk hcp hsum
  go_loopw [48] (fun a wr => ∃ (k : Nat) (ys : List Int), k ≤ m ∧ a = .int .i64 k ∧ Hid (Own w1 w1.heap.size (n + e) ys wr)) (fun a _ => m - (intOf a).toNat)
  case atStart => exact ⟨0, ys2, by omega, rfl, HO2⟩
  case round =>
    obtain ⟨k, ys, hk, rfl, HO⟩ := hrel
    by_cases hlt : k < m
    · have x1 : wr.cell? ⟨gf, fo + k, none⟩ = some (.int .u16 (fs.getD k 0)) := by
        have h := HF.out k hlt
        have hg := cell_lt h
        rw [HO.out.2.2.2.cell (show gf < w1.heap.size from Nat.lt_of_lt_of_le hg HB1.out.size), HB1.out.cell (show gf < w.heap.size from hg)]
        exact h
      obtain ⟨f, hf⟩ := Int.eq_ofNat_of_zero_le (HFB.out k).1
      have hfl := (HFB.out k).2
      rw [hf] at hfl
      rw [hf] at x1
      have hmod : f % (8 * n) < 8 * n := Nat.mod_lt _ (by omega)
      obtain ⟨p, hp⟩ : ∃ p, f % (8 * n) = p := ⟨_, rfl⟩
      rw [hp] at hmod
      have hp' : (f : Int) % (8 * (n : Int)) = (p : Int) := by
        rw [← hp, Int.natCast_emod, Int.natCast_mul]; rfl
      obtain ⟨q, hq⟩ : ∃ q, p / 8 = q := ⟨_, rfl⟩
      have hq' : (p : Int) / 8 = (q : Int) := by omega
      have hqn : q < n := by omega
      have y1 := HO.out.cell (show q < n + e by omega)
      have y2 := HO.out.frozen q
      obtain ⟨y, hy⟩ : ∃ y, ys.getD q 0 = y := ⟨_, rfl⟩
      rw [hy] at y1
      have i1 : (k : Int) < m := by omega
      have i2 : (q : Int) < n := by omega
      have i3 : (0 : Int) < 8 * (n : Int) := by omega
      have i4 : (p : Int) < 8 * (n : Int) := by omega
      clear hf hp hq hy hmod
      go_wp2
      exact ⟨⟨k + 1, ys.set q (bits .xor .u8 y (128 / 2 ^ (p % 8))), by omega, val_int (by omega), HO.out.set q (by omega) _ (xor_byte _ _).1 (xor_byte _ _).2⟩, by simp [intOf]; omega⟩
    · have i1 : ¬ (k : Int) < m := by omega
      obtain ⟨w3, ys3, hap, hown3⟩ := append_own HO.out a2 c2 es HES.out HA2.out (bin_keep (bin_keep HE.out HB1.out) HO.out.2.2.2) HEB.out
      have HO3 := hide hown3
      have HAP := hide hap
      clear hown3 hap
      go_wp2_with (at_builtin; refine wpList_append_run rfl _ _ 22 rfl _ _ _ (by rfl) (by rfl) HAP.out ?_)
      refine (clone_any _ _ _ ys3 _ HO3.out.1 (by omega) HO3.out.bin (by simp)).mono ?_
      rintro r w4 ⟨pw, dw, rfl, hbw, hb4⟩
      have hvw : Lib.BytesIn w4 (some ⟨g, o, none⟩) n zs := bin_keep (bin_keep (bin_keep HV.out HB1.out) HO3.out.2.2.2) hb4
      have hvc : Lib.BytesIn w4 pv n zs := bin_keep (bin_keep HBV.out HO3.out.2.2.2) hb4
      have hww : Lib.BytesIn w4 (some ⟨w1.heap.size, 0, none⟩) (n + e) ys3 := bin_keep HO3.out.bin hb4
      have hbel : Below w.heap.size w w4 := (HB1.out.trans (HO3.out.2.2.2.mono HB1.out.size)).trans (hb4.mono (Nat.le_trans HB1.out.size HO3.out.2.2.2.size))
      have HVW := hide hvw
      have HVC := hide hvc
      have HWW := hide hww
      have HBW := hide hbw
      have HBEL := hide hbel
      have HY := hide HO3.out.1
      have HYB := hide HO3.out.2.1
      clear hvw hvc hww hbw hbel hb4 HO3 HO HO2 HBV HB1 HF HFB HE HEB HES HA2 HAP
      go_wp2_with fail
      refine (fd_some g o n c w1.heap.size 0 (n + e) (n + e) zs ys3 _ hn (by omega) ?_ ?_ HZB.out HYB.out).mono ?_
      · exact cells_of HVW.out
      · exact fun j hj => cells_of HWW.out j (by omega)
      rintro r w5 ⟨⟨r, rfl, hfirst⟩, nq, rfl⟩
      have HFI := hide hfirst
      clear hfirst
      go_wp2_with fail
      have hbq1 : (Lib.bytesOf zs == Lib.bytesOf zs) = true := by simp
      have hbq2 : (Lib.bytesOf ys3 == Lib.bytesOf ys3) = true := by simp
      go_loopw [14, 15] (fun a b wr => ∃ j q : Nat, j ≤ 8 * n ∧ a = .int .i64 (-1) ∧ b = .int .i64 j ∧ wr = w4.drewN q ∧ Hid (∀ i, i < j → bitAt zs i = bitAt ys3 i)) (fun _ b _ => 8 * n - (intOf b).toNat)
      case atStart => exact ⟨0, nq, by omega, rfl, rfl, rfl, fun i hi => by omega⟩
      case round =>
        obtain ⟨j, q, hj, rfl, rfl, rfl, HP⟩ := hrel
        by_cases hjn : j < 8 * n
        · obtain ⟨i, hi⟩ : ∃ i, j / 8 = i := ⟨_, rfl⟩
          obtain ⟨t, ht⟩ : ∃ t, j % 8 = t := ⟨_, rfl⟩
          have x1 := cells_of HVW.out i (by omega)
          have x2 := cells_of HWW.out i (by omega)
          rw [Nat.zero_add] at x2
          have b1 := HZB.out i
          have b2 := HYB.out i
          have hbz : bitAt zs j = zs.getD i 0 / 2 ^ (7 - t) % 2 := by unfold bitAt; rw [hi, ht]
          have hby : bitAt ys3 j = ys3.getD i 0 / 2 ^ (7 - t) % 2 := by unfold bitAt; rw [hi, ht]
          obtain ⟨a, ha⟩ : ∃ a, zs.getD i 0 = a := ⟨_, rfl⟩
          obtain ⟨b, hb⟩ : ∃ b, ys3.getD i 0 = b := ⟨_, rfl⟩
          rw [ha] at x1 b1 hbz
          rw [hb] at x2 b2 hby
          have d1 : 0 ≤ a / 2 ^ (7 - t) ∧ a / 2 ^ (7 - t) ≤ 255 := shr_byte a (7 - t) b1.1 b1.2
          have d2 : 0 ≤ b / 2 ^ (7 - t) ∧ b / 2 ^ (7 - t) ≤ 255 := shr_byte b (7 - t) b2.1 b2.2
          have e1 : bits .and .u8 (a / 2 ^ (7 - t)) 1 = bitAt zs j := by rw [and_one_u8 _ d1.1 d1.2, hbz]
          have e2 : bits .and .u8 (b / 2 ^ (7 - t)) 1 = bitAt ys3 j := by rw [and_one_u8 _ d2.1 d2.2, hby]
          have hi' : (j : Int) / 8 = (i : Int) := by omega
          have ht' : (j : Int) % 8 = (t : Int) := by omega
          have ht8 : t < 8 := by omega
          have i1 : (i : Int) < n := by omega
          have i2 : (i : Int) < n + e := by omega
          have i3 : (j : Int) < 8 * (n : Int) := by omega
          obtain ⟨u, hu⟩ : ∃ u, bitAt zs j = u := ⟨_, rfl⟩
          obtain ⟨v, hv⟩ : ∃ v, bitAt ys3 j = v := ⟨_, rfl⟩
          rw [hu] at e1
          rw [hv] at e2
          have HU := hide hu
          have HVV := hide hv
          obtain ⟨b10, b11⟩ := b1
          obtain ⟨b20, b21⟩ := b2
          clear hi ht ha hb hbz hby d1 d2 hu hv
          by_cases huv : u = v
          · have huv' : (u != v) = false := by simp [huv]
            have HUV := hide huv
            clear huv
            go_wp2
            go_quiet (fail)
            go_wp2
            exact ⟨⟨j + 1, q + nq, by omega, rfl, val_int (by omega), rfl, bits_more HP.out (by rw [HU.out, HVV.out]; exact HUV.out)⟩, by simp [intOf]; omega⟩
          · have huv' : (u != v) = true := by simp [huv]
            have hrj : (r == (j : Int)) = true := by
              have := HFI.out.unique (Or.inr ⟨j, hjn, rfl, by rw [HU.out, HVV.out]; exact huv, HP.out⟩)
              simp [this]
            clear huv
            go_wp2
            go_quiet (fail)
            go_wp2_with fail
            refine (Yba.bytes_Equal_all _ _ _ _ _ _ zs zs _ HZ.out HZ.out (bin_drewN HVW.out _) (bin_drewN HVC.out _)).mono ?_
            rw [hbq1]
            rintro r' w6 ⟨rfl, rfl⟩
            go_wp2_with fail
            refine (Yba.bytes_Equal_all _ _ _ _ _ _ ys3 ys3 _ HY.out HY.out (bin_drewN HWW.out _) (bin_drewN HBW.out _)).mono ?_
            rw [hbq2]
            rintro r' w6 ⟨rfl, rfl⟩
            go_wp2
            go_ret
            exact ⟨rfl, below_drewN HBEL.out _⟩
        · have hj' : ¬ (j : Int) < 8 * (n : Int) := by omega
          have hrj : (r == (-1 : Int)) = true := by
            have := HFI.out.unique (Or.inl ⟨rfl, fun i hi => HP.out i (by omega)⟩)
            simp [this]
          go_wp2_with fail
          refine (Yba.bytes_Equal_all _ _ _ _ _ _ zs zs _ HZ.out HZ.out (bin_drewN HVW.out _) (bin_drewN HVC.out _)).mono ?_
          rw [hbq1]
          rintro r' w6 ⟨rfl, rfl⟩
          go_wp2_with fail
          refine (Yba.bytes_Equal_all _ _ _ _ _ _ ys3 ys3 _ HY.out HY.out (bin_drewN HWW.out _) (bin_drewN HBW.out _)).mono ?_
          rw [hbq2]
          rintro r' w6 ⟨rfl, rfl⟩
          go_wp2
          go_ret
          exact ⟨rfl, below_drewN HBEL.out _⟩

/-- A slice as the row's frame hands it. -/
def InRow (k : IntKind) (w : World) (a : Option Addr) (n c : Nat) (zs : List Int) : Prop :=
  (a = none ∧ n = 0 ∧ c = 0 ∧ zs = []) ∨
  ∃ x, a = some x ∧ n ≤ c ∧ c ≤ maxLen ∧ zs.length = c ∧ (∀ i, i < zs.length → w.cell? (x.add i) = some (.int k (zs.getD i 0))) ∧ ∀ n ∈ zs, (Lit.int k n).wf = true

theorem InRow.cells {k : IntKind} {w : World} {a : Option Addr} {n c : Nat} {zs : List Int} (h : InRow k w a n c zs) :
    (zs.take n).length = n ∧ (a = none → n = 0) ∧ (0 < n → ∃ g o, a = some ⟨g, o, none⟩ ∧ ∀ j, j < n → w.cell? ⟨g, o + j, none⟩ = some (.int k ((zs.take n).getD j 0))) ∧ ∀ z ∈ zs.take n, (Lit.int k z).wf = true := by
  rcases h with ⟨rfl, rfl, rfl, rfl⟩ | ⟨x, rfl, hnc, _, hz, hcell, hw⟩
  · exact ⟨rfl, fun _ => rfl, fun h => absurd h (by omega), fun z hz => by simp at hz⟩
  · refine ⟨by simp; omega, fun h => by simp at h, fun h => ?_, fun z hz => hw z (List.mem_of_mem_take hz)⟩
    obtain ⟨g, o, rfl, hc⟩ := plain_at hcell (by omega)
    refine ⟨g, o, rfl, fun j hj => ?_⟩
    rw [hc j (by omega)]
    simp [List.getD_eq_getElem?_getD, hj]

theorem u16_bounds {zs : List Int} (hw : ∀ z ∈ zs, (Lit.int .u16 z).wf = true) (i : Nat) : 0 ≤ zs.getD i 0 ∧ zs.getD i 0 ≤ 65535 := by
  by_cases h : i < zs.length
  · have := hw zs[i] (List.getElem_mem h)
    simp [Lit.wf, IntKind.min, IntKind.max, IntKind.signed, IntKind.bits] at this
    simp [List.getD_eq_getElem?_getD, h]
    omega
  · simp [List.getD_eq_getElem?_getD, List.getElem?_eq_none (Nat.le_of_not_lt h)]

theorem lawC (a0 : Option Addr) (n c : Nat) (zs : List Int) (a1 : Option Addr) (m d : Nat) (fs : List Int) (a2 : Option Addr) (e f : Nat) (es : List Int) (w : World)
    (h0 : InRow .u8 w a0 n c zs) (h1 : InRow .u16 w a1 m d fs) (h2 : InRow .u8 w a2 e f es) :
    Calls Yba.prog 5 #[.slice a0 n c, .slice a1 m d, .slice a2 e f] w fun r w' => r = .returned (.bool true) ∧ Below w.heap.size w w' := by
  by_cases hl : 1048576 < n ∨ 1048576 < m ∨ 1048576 < e
  · exact lawC_long a0 a1 a2 n c m d e f w hl
  · obtain ⟨z1, z2, z3, z4⟩ := h0.cells
    obtain ⟨f1, f2, f3, f4⟩ := h1.cells
    obtain ⟨e1, e2, e3, e4⟩ := h2.cells
    have he : Lib.BytesIn w a2 e (es.take e) := e3
    by_cases hn : n = 0
    · subst hn
      exact lawC_zero a0 c a1 m d a2 e f (es.take e) w (by omega) (by omega) e1 e2 he (u8_bounds e4)
    · obtain ⟨g, o, rfl, hc⟩ := z3 (by omega)
      have hv : Lib.BytesIn w (some ⟨g, o, none⟩) n (zs.take n) := fun _ => ⟨g, o, rfl, hc⟩
      by_cases hm : m = 0
      · subst hm
        exact lawC_none g o n c a1 d a2 e f (zs.take n) (es.take e) w (by omega) (by omega) (by omega) z1 hv (u8_bounds z4) e1 e2 he (u8_bounds e4)
      · obtain ⟨gf, fo, rfl, hcf⟩ := f3 (by omega)
        exact lawC_flips g o n c gf fo m d a2 e f (zs.take n) (fs.take m) (es.take e) w (by omega) (by omega) (by omega) (by omega) (by omega) z1 hv (u8_bounds z4) hcf (u16_bounds f4) e1 e2 he (u8_bounds e4)

end Go.Proofs.Ybulkdzxs
