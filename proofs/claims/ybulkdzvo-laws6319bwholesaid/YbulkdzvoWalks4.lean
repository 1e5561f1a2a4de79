/-
  The law, walked: nine cuts.
-/
import Derived.Test.YbulkdzvoWalks3
namespace Go.Proofs.Ybulkdzvo
open Go.RowKit PlainB Go.Deep
attribute [local go_sem ↓] Go.wp_at_zero Go.wp_at_succ

set_option maxHeartbeats 4000000 in
set_option maxRecDepth 20000 in
/-- The law's walk: no list longer than 2^20. -/
theorem law_in (a0 : Option Addr) (nf cf : Nat) (s h dfs : Bool) (a4 : Option Addr) (ns cs : Nat) (a5 : Option Addr) (nr cr : Nat) (L C Ad D0 D1 N : Nat → Int) (ad cn : Nat → Nat) (x : Nat → Nat) (R : Nat → Int) (w : World)
    (hnf : nf ≤ 1048576) (hns : ns ≤ 1048576) (hnr : nr ≤ 1048576) (hfs : FsIn w a0 nf L C Ad D0 D1 N) (ha0 : a0 = none → nf = 0)
    (hset : OneIn w a4 ns (fun i => .int .u16 (x i))) (hx : ∀ i, x i < 65536) (hrun : OneIn w a5 nr (fun i => .int .u32 (R i))) (ha5 : a5 = none → nr = 0)
    (hAd : ∀ i, 0 ≤ Ad i ∧ Ad i < 4294967296) (hN : ∀ i, 0 ≤ N i ∧ N i ≤ 255) (hcn : ∀ i, (cn i : Int) = N i % 3) (had : ∀ i, (ad i : Int) = Ad i % (65537 - cn i)) :
    Calls Yba.prog 3 #[.slice a0 nf cf, .bool s, .bool h, .bool dfs, .slice a4 ns cs, .slice a5 nr cr] w fun e w' => e = .returned (.bool true) ∧ Below w.heap.size w w' := by
  have x22 := neq22
  have HFS := hide hfs
  have HSET := hide hset
  have HX := hide hx
  have HRUN := hide hrun
  have HA5 := hide ha5
  have HAd := hide hAd
  have HN := hide hN
  have Hcn := hide hcn
  have Had := hide had
  have HA0 := hide ha0
  have HC2 : Hid (∀ i, cn i ≤ 2) := fun i => by have := hcn i; omega
  have HAC : Hid (∀ i, ad i + cn i ≤ 65536) := fun i => by
    have h1 := had i
    have h2 := HC2.out i
    have h3 := Int.emod_lt_of_pos (Ad i) (show 0 < 65537 - (cn i : Int) by omega)
    omega
  have hmk := fun w => make_fields nf hnf w
  clear hfs hAd hN hcn had ha0 hset hx hrun ha5
  go_enter Yba.func3, Yba.ntmps3
  go_upto_if 48 with (fail)
  go_cut [13, 14, 15, 16] from 49 to 101 (fun v _ _ _ w1 => ∃ fp, v = .slice fp nf nf ∧ fp.isNone = a0.isNone ∧ Hid (Below w.heap.size w w1) ∧ Hid (0 < nf → ∃ A, fp = some ⟨A, 0, none⟩ ∧ w.heap.size ≤ A ∧ w1.rowIs A 33 (nf * 6) (fcell L C ad D0 D1 cn)))
  case first =>
    rcases Option.eq_none_or_eq_some a0 with e0 | ⟨x0, e0⟩
    · have HN0 := hide (HA0.out e0)
      subst e0
      go_wp2
      go_meet
      case rel => exact ⟨none, by rw [HN0.out], rfl, Below.refl _ _, fun h => absurd HN0.out (by omega)⟩
    · subst e0
      go_wp2
      go_loopw [54] (fun v wr => ∃ k : Nat, k ≤ nf ∧ v = .int .i64 k ∧ Hid (wr.rowIs w.heap.size 33 (nf * 6) (frow L C ad D0 D1 cn k)) ∧ Hid (Below w.heap.size w wr)) (fun v _ => nf - (intOf v).toNat)
      case atStart => exact ⟨0, by omega, rfl, (fields_made w nf).congr fun j _ => by simp [frow], (Below.refl _ _).alloc (Nat.le_refl _) _⟩
      case round =>
        obtain ⟨k, hk, rfl, HR, HB⟩ := hrel
        by_cases hlt : k < nf
        · obtain ⟨g, o, e1, hc⟩ := HFS.out (by omega)
          obtain rfl : x0 = ⟨g, o, none⟩ := by simpa using e1
          obtain ⟨c0, c1, c2, c3, c4, c5⟩ := hc k hlt
          have hg : g < w.heap.size := cell_lt c0
          have y0 := (HB.out.cell (p := ⟨g, o + k * 6, none⟩) hg).trans c0
          have y1 := (HB.out.cell (p := ⟨g, o + k * 6 + 1, none⟩) hg).trans c1
          have y2 := (HB.out.cell (p := ⟨g, o + k * 6 + 2, none⟩) hg).trans c2
          have y3 := (HB.out.cell (p := ⟨g, o + k * 6 + 3, none⟩) hg).trans c3
          have y4 := (HB.out.cell (p := ⟨g, o + k * 6 + 4, none⟩) hg).trans c4
          have y5 := (HB.out.cell (p := ⟨g, o + k * 6 + 5, none⟩) hg).trans c5
          have en : N k % 3 = (cn k : Int) := (Hcn.out k).symm
          have ea : Ad k % (65537 - (cn k : Int)) = (ad k : Int) := (Had.out k).symm
          obtain ⟨n0, n1⟩ := HN.out k
          obtain ⟨d0, d1⟩ := HAd.out k
          have ncn : cn k ≤ 2 := by omega
          have hne : g ≠ w.heap.size := Nat.ne_of_lt hg
          have i1 : (k : Int) < nf := by omega
          clear e1 hc c0 c1 c2 c3 c4 c5
          obtain ⟨z0, z1, z2, z3, z4, z5⟩ := row_six HR.out k hlt
          obtain ⟨f0, f1, f2, f3, f4, f5⟩ := row_six_frozen HR.out k
          go_wp2
          go_region_held3 (fun w' => w'.cell? ⟨g, o + k * 6, none⟩ = some (.int .i64 (L k)) ∧ w'.cell? ⟨g, o + k * 6 + 1, none⟩ = some (.int .i64 (C k)) ∧ w'.cell? ⟨g, o + k * 6 + 3, none⟩ = some (.int .u8 (D0 k)) ∧ w'.cell? ⟨g, o + k * 6 + 4, none⟩ = some (.int .u8 (D1 k))) (first | with_reducible exact ⟨keep_six hne (by assumption), keep_six hne (by assumption), keep_six hne (by assumption), keep_six hne (by assumption)⟩ | go_keep) (fail)
          go_wp2
          refine ⟨?_, ?mm⟩
          case mm => show nf - (k + 1 : Int).toNat < nf - (k : Int).toNat; omega
          (repeat apply Exists.intro)
          refine ⟨?_, rfl⟩
          exact ⟨k + 1, by omega, val_int (by omega), (row_step HR.out).drewN _, six_below HB.out⟩
        · obtain rfl : k = nf := by omega
          have i1 : ¬ (k : Int) < k := by omega
          go_wp2
          go_meet
          case rel => exact ⟨some ⟨w.heap.size, 0, none⟩, rfl, rfl, HB.out, fun _ => ⟨_, rfl, Nat.le_refl _, HR.out.congr fun j hj => by unfold frow; rw [if_pos (by omega)]⟩⟩
  case rest =>
    clear x22
    obtain ⟨fp, rfl, hfp, HB1, HF⟩ := hcut
    obtain ⟨w1, hw1⟩ : ∃ w1, w1 = wc := ⟨_, rfl⟩
    subst hw1
    obtain ⟨w2, hcp, hrS, hB2, hs2⟩ := copy_fields fp nf (fcell L C ad D0 D1 cn) w1 (fcell_one _ _ _ _ _ _) (fun hp => by obtain ⟨A, e, _, r⟩ := HF.out hp; exact ⟨A, e, r⟩)
    have HSN := hide hrS
    have HW2 := hide (HB1.out.trans (below_le hB2 HB1.out.size))
    have HB2 := hide hB2
    have HS2 := hide hs2
    clear hrS hB2 hs2
    go_upto_region 16 with (fail)
    go_cut [111] from 108 to 110 (fun v wx => v = .bool (s || h) ∧ w2 = wx)
    case first =>
      as_aux_lemma =>
      clear hmk hcp
      cases s <;> go_wp2 <;> go_meet <;> exact ⟨rfl, rfl⟩
    case rest =>
    obtain ⟨rfl, rfl⟩ := hcut
    go_upto_if 111 with (fail)
    go_cut [18, 20] from 111 to 141 (fun v _ w3 => ∃ st, v = .pointer st ∧ Hid (st = if s || h then some ⟨w2.heap.size, 0, none⟩ else none) ∧ Hid (Below w2.heap.size w2 w3) ∧ Hid ((s || h) = true → ∃ m, w3.rowIs w2.heap.size 39 66560 (stCell (dat x ns) m) ∧ Bits m (inS x ns)))
    case first =>
      as_aux_lemma =>
      clear hmk hcp
      obtain ⟨Z, hz, hZ⟩ := alloc_stage
      have HZ := hide (hZ w2)
      clear hZ
      generalize hq : (s || h) = q
      cases q with
      | false =>
        go_wp2
        go_meet
        case rel => exact ⟨none, rfl, by rw [hq]; rfl, Below.refl _ _, fun e => absurd (hq.symm.trans e) (by decide)⟩
      | true =>
        go_wp2
        go_loopw [115] (fun v wr => ∃ k : Nat, k ≤ ns ∧ v = .int .i64 k ∧ Hid (Below w2.heap.size w2 wr) ∧ Hid (∃ m, wr.rowIs w2.heap.size 39 66560 (stCell (dat x k) m) ∧ Bits m (inS x k))) (fun v _ => ns - (intOf v).toNat)
        case atStart => exact ⟨0, by omega, rfl, (Below.refl _ _).alloc (Nat.le_refl _) _, _, HZ.out, bits_zero⟩
        case round =>
          obtain ⟨k, hk, rfl, HB3, HM⟩ := hrel
          by_cases hlt : k < ns
          · obtain ⟨g, o, e1, hc⟩ := HSET.out (by omega)
            subst e1
            have hc := hc k hlt
            have hg : g < w.heap.size := cell_lt hc
            have hxk := HX.out k
            have y0 : wr.cell? ⟨g, o + k, none⟩ = some (.int .u16 (x k)) := (HB3.out.cell (p := ⟨g, o + k, none⟩) (Nat.lt_of_lt_of_le hg HW2.out.size)).trans ((HW2.out.cell (p := ⟨g, o + k, none⟩) hg).trans hc)
            obtain ⟨m', hr', hb'⟩ := HM.out
            have hq : x k / 64 < 1024 := by omega
            obtain ⟨q, hqe⟩ : ∃ q, x k / 64 = q := ⟨_, rfl⟩
            obtain ⟨b, hbe⟩ : ∃ b, x k % 64 = b := ⟨_, rfl⟩
            have x1 : wr.cell? ⟨w2.heap.size, 65536 + q, none⟩ = some (.int .u64 (m' q)) := by
              have := hr'.cell (i := 65536 + q) (by omega)
              rw [this]
              simp [stCell]
            have x2 : wr.frozen? ⟨w2.heap.size, 65536 + q, none⟩ = false := hr'.frozen _
            have x3 : wr.frozen? ⟨w2.heap.size, x k, none⟩ = false := hr'.frozen _
            have x4 : wr.cell? ⟨w2.heap.size, x k, none⟩ = some (.int .u8 (dat x k (x k))) := by
              have := hr'.cell (i := x k) (by omega)
              rw [this]
              simp [stCell, hxk]
            have e1 : (x k : Int) / 64 = (q : Int) := by omega
            have e2 : (x k : Int) % 64 = (b : Int) := by omega
            have e3 : IntKind.u16.wrap (q : Int) = (q : Int) := by rw [IntKind.wrap_u16]; omega
            have e4 : IntKind.u16.wrap (b : Int) = (b : Int) := by rw [IntKind.wrap_u16]; omega
            have hq1 : (q : Int) < 1024 := by omega
            have hb1 : b < 64 := by omega
            have i1 : (k : Int) < ns := by omega
            have i2 : (x k : Int) < 65536 := by omega
            have ne1 : ¬ x k = 65536 + q := by omega
            have ne2 : ¬ 65536 + q = x k := by omega
            have HRR := hide hr'
            have HBB := hide hb'
            have ev := set_word (m' q) b (hb'.1 q) hb1
            clear hr' hb' hc
            go_wp2
            go_region
            go_wp2
            exact ⟨⟨k + 1, by omega, val_int (by omega), two_below HB3.out, _, stage_step HRR.out hxk q _, stage_bits HBB.out hqe hbe⟩, by simp [intOf]; omega⟩
          · obtain rfl : k = ns := by omega
            have i1 : ¬ (k : Int) < k := by omega
            go_wp2
            go_meet
            case rel => exact ⟨some ⟨w2.heap.size, 0, none⟩, rfl, by rw [hq]; rfl, HB3.out, fun _ => HM.out⟩
    case rest =>
    clear hmk hcp
    obtain ⟨st, rfl, HPT, HB3, HST⟩ := hcut
    obtain ⟨w3, hw3⟩ : ∃ w3, w3 = wc := ⟨_, rfl⟩
    subst hw3
    obtain ⟨Zb, hzb, hZb⟩ := alloc_bools
    obtain ⟨Zy, hzy, hZy⟩ := alloc_bytes
    have HW3 := hide ((hZb w3).alloc (.cells Zy 35))
    have HV3 := hide (hZy (w3.alloc (.cells Zb 42)))
    clear hZb hZy
    go_upto_block 4 with (fail)
    go_cut [24] from 146 to 161 (fun _ w4 => Hid (Below w3.heap.size w3 w4) ∧ Hid (w4.rowIs w3.heap.size 42 65536 (fun j => .bool (inS x ns j))) ∧ Hid (w4.rowIs (w3.heap.size + 1) 35 65536 (fun j => .int .u8 (dat x ns j))))
    case first =>
      as_aux_lemma =>
      go_wp2
      go_loopw [146] (fun v wr => ∃ k : Nat, k ≤ ns ∧ v = .int .i64 k ∧ Hid (Below w3.heap.size w3 wr) ∧ Hid (wr.rowIs w3.heap.size 42 65536 (fun j => .bool (inS x k j))) ∧ Hid (wr.rowIs (w3.heap.size + 1) 35 65536 (fun j => .int .u8 (dat x k j)))) (fun v _ => ns - (intOf v).toNat)
      case atStart =>
        refine ⟨0, by omega, rfl, ((Below.refl _ _).alloc (Nat.le_refl _) _).alloc (by simp) _, HW3.out, ?_⟩
        have e := HV3.out
        rw [show (w3.alloc (.cells Zb 42)).heap.size = w3.heap.size + 1 by simp] at e
        exact e
      case round =>
        obtain ⟨k, hk, rfl, HB, HW, HV⟩ := hrel
        by_cases hlt : k < ns
        · obtain ⟨g, o, e1, hc⟩ := HSET.out (by omega)
          subst e1
          have hc := hc k hlt
          have hg : g < w.heap.size := cell_lt hc
          have hxk := HX.out k
          have g2 := Nat.lt_of_lt_of_le hg HW2.out.size
          have g3 := Nat.lt_of_lt_of_le g2 HB3.out.size
          have y0 : wr.cell? ⟨g, o + k, none⟩ = some (.int .u16 (x k)) := (HB.out.cell (p := ⟨g, o + k, none⟩) g3).trans ((HB3.out.cell (p := ⟨g, o + k, none⟩) g2).trans ((HW2.out.cell (p := ⟨g, o + k, none⟩) hg).trans hc))
          have x1 : wr.cell? ⟨w3.heap.size, x k, none⟩ = some (.bool (inS x k (x k))) := HW.out.cell hxk
          have x2 : wr.frozen? ⟨w3.heap.size, x k, none⟩ = false := HW.out.frozen _
          have x3 : wr.cell? ⟨w3.heap.size + 1, x k, none⟩ = some (.int .u8 (dat x k (x k))) := HV.out.cell hxk
          have x4 : wr.frozen? ⟨w3.heap.size + 1, x k, none⟩ = false := HV.out.frozen _
          have i1 : (k : Int) < ns := by omega
          have i2 : (x k : Int) < 65536 := by omega
          clear hc
          go_wp2
          exact ⟨⟨k + 1, by omega, val_int (by omega), pair_below HB.out (Nat.le_refl _) (Nat.le_succ _), want_step HW.out (by omega), data_step HV.out (by omega)⟩, by simp [intOf]; omega⟩
        · obtain rfl : k = ns := by omega
          have i1 : ¬ (k : Int) < k := by omega
          go_wp2
          go_meet
          case rel => exact ⟨HB.out, HW.out, HV.out⟩
    case rest =>
    clear hzb hzy HW3 HV3
    obtain ⟨HB4, HW4, HV4⟩ := hcut
    obtain ⟨w4, hw4⟩ : ∃ w4, w4 = wc := ⟨_, rfl⟩
    subst hw4
    have hl1 : w1.heap.size < w2.heap.size := row_lt HSN.out
    have hl2 : w2.heap.size ≤ w3.heap.size := HB3.out.size
    have hl3 : w3.heap.size + 1 < w4.heap.size := row_lt HV4.out
    have HSN4 := hide (below_row HB4.out (below_row HB3.out HSN.out hl1) (Nat.lt_of_lt_of_le hl1 hl2))
    have HL := hide (And.intro hl1 (And.intro hl2 hl3))
    clear hl1 hl2 hl3
    go_upto_if 162 with (fail)
    go_cut [25, 26] from 163 to 188 (fun _ _ w5 => Hid (But w3.heap.size w4 w5) ∧ Hid (w5.rowIs w3.heap.size 42 65536 (fun j => .bool (inS x ns j && !(s && Cl ad cn nf j)))))
    case first =>
      as_aux_lemma =>
      cases s with
      | false =>
        go_wp2
        go_meet
        case rel => exact ⟨But.refl _ _, HW4.out.congr fun j _ => by simp⟩
      | true =>
        go_wp2
        go_loopw [165] (fun v wr => ∃ k : Nat, k ≤ nf ∧ v = .int .i64 k ∧ Hid (But w3.heap.size w4 wr) ∧ Hid (wr.rowIs w3.heap.size 42 65536 (fun j => .bool (inS x ns j && !Cl ad cn k j)))) (fun v _ => nf - (intOf v).toNat)
        case atStart => exact ⟨0, by omega, rfl, But.refl _ _, HW4.out.congr fun j _ => by simp [Cl_zero]⟩
        case round =>
          obtain ⟨k, hk, rfl, HB, HW⟩ := hrel
          by_cases hlt : k < nf
          · have i1 : (k : Int) < nf := by omega
            go_wp2
            go_loopw [26] (fun v w' => ∃ t : Nat, t ≤ cn k ∧ v = .int .i64 t ∧ Hid (But w3.heap.size w4 w') ∧ Hid (w'.rowIs w3.heap.size 42 65536 (fun j => .bool (inS x ns j && !(Cl ad cn k j || (decide (ad k ≤ j) && decide (j < ad k + t))))))) (fun v _ => cn k - (intOf v).toNat)
            case atStart => exact ⟨0, by omega, rfl, HB.out, HW.out.congr fun j _ => congrArg Value.bool (clr_none (inS x ns) (Cl ad cn k) (ad k) j)⟩
            case round =>
              obtain ⟨t, ht, rfl, HBt, HWt⟩ := hrel
              have hl := HL.out
              have hrow := HBt.out.row HSN4.out (show w1.heap.size ≠ w3.heap.size by omega)
              obtain ⟨-, -, z2, -, -, z5⟩ := row_six hrow k hlt
              obtain ⟨-, -, e2, -, -, e5⟩ := fcell_at L C ad D0 D1 cn k
              rw [e2] at z2
              rw [e5] at z5
              have hn2 := HC2.out k
              have had := HAC.out k
              clear e2 e5 hrow
              by_cases htl : t < cn k
              · have j1 : (t : Int) < cn k := by omega
                have x1 : wr.cell? ⟨w3.heap.size, ad k + t, none⟩ = some (.bool (inS x ns (ad k + t) && !(Cl ad cn k (ad k + t) || (decide (ad k ≤ ad k + t) && decide (ad k + t < ad k + t))))) := HWt.out.cell (by omega)
                have x2 : wr.frozen? ⟨w3.heap.size, ad k + t, none⟩ = false := HWt.out.frozen _
                have j2 : (ad k : Int) + t < 65536 := by omega
                clear hl
                go_wp2
                go_region
                go_wp2
                exact ⟨⟨t + 1, by omega, val_int (by omega), (HBt.out.drewN 1).setCell _ _, clr_step (HWt.out.drewN 1) fun j => clr_more (inS x ns) (Cl ad cn k) (ad k) t j⟩, by simp [intOf]; omega⟩
              · obtain rfl : t = cn k := by omega
                have j1 : ¬ (cn k : Int) < cn k := by omega
                clear hl
                go_wp2
                exact ⟨⟨k + 1, by omega, val_int (by omega), HBt.out, HWt.out.congr fun j _ => by rw [Cl_succ]⟩, by simp [intOf]; omega⟩
          · obtain rfl : k = nf := by omega
            have i1 : ¬ (k : Int) < k := by omega
            go_wp2
            go_meet
            case rel => exact ⟨HB.out, HW.out.congr fun j _ => by simp⟩
    case rest =>
    obtain ⟨HB5, HW5⟩ := hcut
    obtain ⟨w5, hw5⟩ : ∃ w5, w5 = wc := ⟨_, rfl⟩
    subst hw5
    have HWW5 := hide (HW2.out.trans ((below_le HB3.out HW2.out.size).trans ((below_le HB4.out (Nat.le_trans HW2.out.size HB3.out.size)).trans (but_below HB5.out (Nat.le_trans HW2.out.size HB3.out.size)))))
    have x24 := neq24
    have hmr := fun w => make_runs nr hnr w
    go_upto_if 190 with (fail)
    go_cut [27, 28] from 191 to 207 (fun v _ w6 => ∃ rp, v = .slice rp nr nr ∧ rp.isNone = a5.isNone ∧ Hid (Below w5.heap.size w5 w6) ∧ Hid (0 < nr → ∃ B, rp = some ⟨B, 0, none⟩ ∧ w5.heap.size ≤ B ∧ w6.rowIs B 47 (nr * 2) (rcell R)))
    case first =>
      as_aux_lemma =>
      rcases Option.eq_none_or_eq_some a5 with e0 | ⟨x0, e0⟩
      · have HN0 := hide (HA5.out e0)
        subst e0
        go_wp2
        go_meet
        case rel => exact ⟨none, by rw [HN0.out], rfl, Below.refl _ _, fun h => absurd HN0.out (by omega)⟩
      · subst e0
        go_wp2
        go_loopw [196] (fun v wr => ∃ k : Nat, k ≤ nr ∧ v = .int .i64 k ∧ Hid (wr.rowIs w5.heap.size 47 (nr * 2) (rrow R k)) ∧ Hid (Below w5.heap.size w5 wr)) (fun v _ => nr - (intOf v).toNat)
        case atStart => exact ⟨0, by omega, rfl, runs_made w5 nr R, (Below.refl _ _).alloc (Nat.le_refl _) _⟩
        case round =>
          obtain ⟨k, hk, rfl, HR, HB⟩ := hrel
          by_cases hlt : k < nr
          · obtain ⟨g, o, e1, hc⟩ := HRUN.out (by omega)
            obtain rfl : x0 = ⟨g, o, none⟩ := by simpa using e1
            have hc := hc k hlt
            have hg : g < w.heap.size := cell_lt hc
            have g5 := Nat.lt_of_lt_of_le hg HWW5.out.size
            have y0 : wr.cell? ⟨g, o + k, none⟩ = some (.int .u32 (R k)) := (HB.out.cell (p := ⟨g, o + k, none⟩) g5).trans ((HWW5.out.cell (p := ⟨g, o + k, none⟩) hg).trans hc)
            have z0 := HR.out.cell (i := k * 2) (by omega)
            have z1 := HR.out.cell (i := k * 2 + 1) (by omega)
            have f0 : wr.frozen? ⟨w5.heap.size, k * 2, none⟩ = false := HR.out.frozen _
            have f1 : wr.frozen? ⟨w5.heap.size, k * 2 + 1, none⟩ = false := HR.out.frozen _
            have i1 : (k : Int) < nr := by omega
            clear hc e1
            go_wp2
            exact ⟨⟨k + 1, by omega, val_int (by omega), run_step HR.out, pair_below HB.out (Nat.le_refl _) (Nat.le_refl _)⟩, by simp [intOf]; omega⟩
          · obtain rfl : k = nr := by omega
            have i1 : ¬ (k : Int) < k := by omega
            go_wp2
            go_meet
            case rel => exact ⟨some ⟨w5.heap.size, 0, none⟩, rfl, rfl, HB.out, fun _ => ⟨_, rfl, Nat.le_refl _, HR.out.congr fun j hj => by unfold rrow; rw [if_pos (by omega)]⟩⟩
    case rest =>
    clear x24 hmr
    obtain ⟨rp, rfl, hrp, HB6, HR6⟩ := hcut
    obtain ⟨w6, hw6⟩ : ∃ w6, w6 = wc := ⟨_, rfl⟩
    subst hw6
    have hl5 : w5.heap.size = w4.heap.size := HB5.out.2.2.2.1
    have hl6 : w5.heap.size ≤ w6.heap.size := HB6.out.size
    have hl0 := HL.out
    have HC6 := hide (fun b (hb : b < w3.heap.size) => (HB6.out.block b (by omega)).trans ((HB5.out.2.2.2.2 b (by omega)).trans (HB4.out.block b hb)))
    have HWW6 := hide (HWW5.out.trans (below_le HB6.out HWW5.out.size))
    have HA3 : Hid (0 < nf → ∃ A, fp = some ⟨A, 0, none⟩ ∧ A < w1.heap.size ∧ w3.rowIs A 33 (nf * 6) (fcell L C ad D0 D1 cn)) := fun hp => by
      obtain ⟨A, e, _, hr⟩ := HF.out hp
      exact ⟨A, e, row_lt hr, below_row HB3.out (below_row HB2.out hr (row_lt hr)) (Nat.lt_trans (row_lt hr) hl0.1)⟩
    have HSN3 := hide (below_row HB3.out HSN.out hl0.1)
    have HNN := hide (And.intro hl5 (And.intro hl6 hl0))
    clear hl5 hl6 hl0
    go_upto_region 50 with (fail)
    go_cut [] from 215 to 216 (fun w7 => Hid (Below w.heap.size w w7) ∧ Hid (∀ b, b ≠ w6.heap.size → b ≠ w2.heap.size → w7.heap[b]? = w6.heap[b]?) ∧ Hid (w7.rowIs w6.heap.size 50 5 (heldC (.slice fp 0 nf) false (.pointer st) false (.slice rp nr nr))) ∧
      Hid ((s || h) = true → ∃ m, w7.rowIs w2.heap.size 39 66560 (stCell (dat x ns) m) ∧ Bits m (fun j => inS x ns j && !(s && Cl ad cn nf j))))
    case first =>
      as_aux_lemma =>
      have hl := HNN.out
      have hW := HWW6.out.size
      have hW2 := HW2.out.size
      have HHH := hide (held_made w6 (.slice fp nf nf) s (.pointer st) dfs (.slice rp nr nr))
      cases s with
      | false =>
        clear hl hW hW2
        go_wp2_with (go_at_call 4; refine (reset_plain w6.heap.size nf fp st dfs (.slice rp nr nr) _ HHH.out).mono ?_; rintro e w' ⟨rfl, hbut, hrow⟩)
        go_meet
        case rel =>
          have hl := HNN.out
          have hW := HWW6.out.size
          refine ⟨(HWW6.out.alloc hW _).trans (but_below hbut hW), fun b hb _ => (hbut.2.2.2.2 b hb).trans (alloc_other _ _ b hb), hrow, fun hq => ?_⟩
          obtain ⟨m, hm, hb⟩ := HST.out hq
          have h1 := row_lt hm
          exact ⟨m, hm.of_block ((hbut.2.2.2.2 _ (by omega)).trans ((alloc_other _ _ _ (by omega)).trans (HC6.out _ h1))), bits_congr hb fun j _ => by simp⟩
      | true =>
        have e := HPT.out
        simp only [Bool.true_or, if_true] at e
        subst e
        obtain ⟨m, hm, hb⟩ := HST.out rfl
        have h1 := row_lt hm
        have HM := hide (hm.of_block ((alloc_other w6 (.cells #[.slice fp nf nf, .bool true, .pointer (some ⟨w2.heap.size, 0, none⟩), .bool dfs, .slice rp nr nr] 50) _ (by omega)).trans (HC6.out _ h1)))
        have HBm := hide hb
        have HIN : Hid (0 < nf → ∃ A, fp = some ⟨A, 0, none⟩ ∧ A ≠ w2.heap.size ∧ ∀ i, i < nf → (w6.alloc (.cells #[.slice fp nf nf, .bool true, .pointer (some ⟨w2.heap.size, 0, none⟩), .bool dfs, .slice rp nr nr] 50)).cell? ⟨A, i * 6 + 2, none⟩ = some (.int .u32 (ad i)) ∧ (w6.alloc (.cells #[.slice fp nf nf, .bool true, .pointer (some ⟨w2.heap.size, 0, none⟩), .bool dfs, .slice rp nr nr] 50)).cell? ⟨A, i * 6 + 5, none⟩ = some (.int .i64 (cn i))) := fun hp => by
          obtain ⟨A, e, hA, hr⟩ := HA3.out hp
          have hr6 := hr.of_block ((alloc_other w6 (.cells #[.slice fp nf nf, .bool true, .pointer (some ⟨w2.heap.size, 0, none⟩), .bool dfs, .slice rp nr nr] 50) A (by omega)).trans (HC6.out A (by omega)))
          refine ⟨A, e, by omega, fun i hi => ?_⟩
          obtain ⟨-, -, z2, -, -, z5⟩ := row_fields hr6 i hi
          exact ⟨z2, z5⟩
        have hne : w6.heap.size ≠ w2.heap.size := by omega
        clear hl hW hW2 hm hb h1
        go_wp2_with (go_at_call 4; refine (reset_staged w6.heap.size w2.heap.size nf fp dfs (.slice rp nr nr) ad cn (dat x ns) m (inS x ns) _ hnf hne HAC.out HC2.out HIN.out HHH.out HM.out HBm.out).mono ?_; rintro e w' ⟨rfl, w8, hb1, hb2, hrow, m', hr', hbits'⟩)
        go_meet
        case rel =>
          have hl := HNN.out
          have hW := HWW6.out.size
          have hW2 := HW2.out.size
          exact ⟨((HWW6.out.alloc hW _).trans (but_below hb1 hW2)).trans (but_below hb2 hW), fun b hb hbS => (hb2.2.2.2.2 b hb).trans ((hb1.2.2.2.2 b hbS).trans (alloc_other _ _ b hb)), hrow, fun _ => ⟨m', hr', bits_congr hbits' fun j _ => by simp⟩⟩
    case rest =>
    obtain ⟨HB7, HO7, HH7, HS7⟩ := hcut
    obtain ⟨w7, hw7⟩ : ∃ w7, w7 = wc := ⟨_, rfl⟩
    subst hw7
    have hn := HNN.out
    have HA7 : Hid (0 < nf → ∃ A, fp = some ⟨A, 0, none⟩ ∧ w7.rowIs A 33 (nf * 6) (fcell L C ad D0 D1 cn)) := fun hp => by
      obtain ⟨A, e, hA, hr⟩ := HA3.out hp
      exact ⟨A, e, hr.of_block ((HO7.out A (by omega) (by omega)).trans (HC6.out A (by omega)))⟩
    have HSN7 := hide (HSN3.out.of_block ((HO7.out w1.heap.size (by omega) (by omega)).trans (HC6.out w1.heap.size (by omega))))
    have HR7 : Hid (0 < nr → ∃ B, rp = some ⟨B, 0, none⟩ ∧ w7.rowIs B 47 (nr * 2) (rcell R)) := fun hp => by
      obtain ⟨B, e, hB, hr⟩ := HR6.out hp
      have := row_lt hr
      exact ⟨B, e, hr.of_block (HO7.out B (by omega) (by omega))⟩
    have HWV7 : Hid ((s || h) = true → w2.heap.size < w3.heap.size ∧ w7.rowIs w3.heap.size 42 65536 (fun j => .bool (inS x ns j && !(s && Cl ad cn nf j))) ∧ w7.rowIs (w3.heap.size + 1) 35 65536 (fun j => .int .u8 (dat x ns j))) := fun hq => by
      obtain ⟨m, hm, _⟩ := HST.out hq
      have h1 := row_lt hm
      exact ⟨h1, HW5.out.of_block ((HO7.out _ (by omega) (by omega)).trans (HB6.out.block _ (by omega))), HV4.out.of_block ((HO7.out _ (by omega) (by omega)).trans ((HB6.out.block _ (by omega)).trans (HB5.out.2.2.2.2 _ (by omega))))⟩
    clear hn
    obtain ⟨c0, c1, c2, c3, c4, -, -, -⟩ := heldC_cells HH7.out
    have x25 := eql25
    go_upto_block 12 with (fail)
    go_cut [12, 30] from 245 to 257 (fun _ _ wx => ∃ nq, wx = w7.drewN nq)
    case first =>
      as_aux_lemma =>
      go_wp2
      go_loopw [245] (fun v wr => ∃ k : Nat, k ≤ nf ∧ v = .int .i64 k ∧ ∃ nq, wr = w7.drewN nq) (fun v _ => nf - (intOf v).toNat)
      case atStart => exact ⟨0, by omega, rfl, 0, rfl⟩
      case round =>
        obtain ⟨k, hk, rfl, nq, rfl⟩ := hrel
        by_cases hlt : k < nf
        · obtain ⟨A, rfl, hr⟩ := HA7.out (by omega)
          obtain ⟨z0, z1, z2, z3, z4, z5⟩ := row_fields hr k hlt
          obtain ⟨s0, s1, s2, s3, s4, s5⟩ := row_fields HSN7.out k hlt
          have xn := neq33_same (L k) (C k) (ad k) (D0 k) (D1 k) (cn k)
          have i1 : (k : Int) < nf := by omega
          clear hr
          go_wp2
          go_quiet (fail)
          go_wp2
          exact ⟨⟨k + 1, by omega, val_int (by omega), _, rfl⟩, by simp [intOf]; omega⟩
        · obtain rfl : k = nf := by omega
          have i1 : ¬ (k : Int) < k := by omega
          go_wp2
          go_meet
          case rel => exact ⟨_, rfl⟩
    case rest =>
    clear x25
    obtain ⟨n1, rfl⟩ := hcut
    have x44 := eql44
    have x34 := neq34_same
    go_upto_block 14 with (fail)
    go_cut [12, 31] from 299 to 326 (fun _ _ wx => ∃ nq, wx = w7.drewN nq)
    case first =>
      as_aux_lemma =>
      go_wp2
      go_loopw [299] (fun v wr => ∃ k : Nat, k ≤ nr ∧ v = .int .i64 k ∧ ∃ nq, wr = w7.drewN nq) (fun v _ => nr - (intOf v).toNat)
      case atStart => exact ⟨0, by omega, rfl, _, rfl⟩
      case round =>
        obtain ⟨k, hk, rfl, nq, rfl⟩ := hrel
        by_cases hlt : k < nr
        · obtain ⟨B, rfl, hr⟩ := HR7.out (by omega)
          obtain ⟨g, o, e1, hc⟩ := HRUN.out (by omega)
          subst e1
          have hc := hc k hlt
          have y0 : w7.cell? ⟨g, o + k, none⟩ = some (.int .u32 (R k)) := (HB7.out.cell (p := ⟨g, o + k, none⟩) (cell_lt hc)).trans hc
          have z0 := (hr.cell (i := k * 2) (by omega)).trans (congrArg some (rcell_at R k).1)
          have z1 := (hr.cell (i := k * 2 + 1) (by omega)).trans (congrArg some (rcell_at R k).2)
          have x45 := neq45_nil
          have i1 : (k : Int) < nr := by omega
          clear hr hc
          go_wp2
          go_quiet (fail)
          go_wp2
          refine ⟨?_, ?mm⟩
          case mm => show nr - (k + 1 : Int).toNat < nr - (k : Int).toNat; omega
          (repeat apply Exists.intro)
          refine ⟨?_, rfl⟩
          exact ⟨k + 1, by omega, val_int (by omega), _, rfl⟩
        · obtain rfl : k = nr := by omega
          have i1 : ¬ (k : Int) < k := by omega
          go_wp2
          go_meet
          case rel => exact ⟨_, rfl⟩
    case rest =>
    clear x44 x34
    obtain ⟨n2, rfl⟩ := hcut
    have y34 := neq34_nil
    go_upto_if 328 with (fail)
    go_cut [12, 32, 33] from 328 to 366 (fun _ _ _ wx => ∃ nq, wx = w7.drewN nq)
    case first =>
      as_aux_lemma =>
      by_cases hq : (s || h) = true
      case neg =>
        have e := HPT.out
        rw [if_neg hq] at e
        subst e
        clear hq
        go_wp2
        go_meet
        case rel => exact ⟨_, rfl⟩
      case pos =>
        have e := HPT.out
        rw [if_pos hq] at e
        subst e
        obtain ⟨m, hm, hb⟩ := HS7.out hq
        obtain ⟨hlt3, hw, hv⟩ := HWV7.out hq
        have HM := hide hm
        have HBm := hide hb
        have HWm := hide hw
        have HVm := hide hv
        clear hq hm hb hlt3 hw hv
        go_wp2
        go_loopw [32] (fun v wr => ∃ a : Nat, a ≤ 65536 ∧ v = .int .i64 a ∧ ∃ nq, wr = w7.drewN nq) (fun v _ => 65536 - (intOf v).toNat)
        case atStart => exact ⟨0, by omega, rfl, _, rfl⟩
        case round =>
          obtain ⟨a, ha, rfl, nq, rfl⟩ := hrel
          by_cases hlt : a < 65536
          · have hqq : a / 64 < 1024 := by omega
            obtain ⟨q, hqe⟩ : ∃ q, a / 64 = q := ⟨_, rfl⟩
            obtain ⟨b, hbe⟩ : ∃ b, a % 64 = b := ⟨_, rfl⟩
            obtain ⟨P, hP⟩ : ∃ P : Bool, (inS x ns a && !(s && Cl ad cn nf a)) = P := ⟨_, rfl⟩
            have x1 : w7.cell? ⟨w2.heap.size, 65536 + q, none⟩ = some (.int .u64 (m q)) := by
              rw [HM.out.cell (i := 65536 + q) (by omega)]
              simp [stCell]
            have x2 : w7.cell? ⟨w2.heap.size, a, none⟩ = some (.int .u8 (dat x ns a)) := by
              rw [HM.out.cell (i := a) (by omega)]
              simp [stCell, hlt]
            have x3 : w7.cell? ⟨w3.heap.size, a, none⟩ = some (.bool P) := by
              rw [HWm.out.cell (i := a) hlt, ← hP]
            have x4 : w7.cell? ⟨w3.heap.size + 1, a, none⟩ = some (.int .u8 (dat x ns a)) := HVm.out.cell hlt
            have eb : (bits .and .u64 ((m q : Int) / 2 ^ b) 1 == 1) = P := by
              have e := HBm.out.2 a hlt
              rw [hqe, hbe] at e
              exact (bit_test (m q) b (HBm.out.1 q)).trans (e.trans hP)
            have e1 : (a : Int) / 64 = (q : Int) := by omega
            have e2 : (a : Int) % 64 = (b : Int) := by omega
            have hq1 : (q : Int) < 1024 := by omega
            have hb1 : b < 64 := by omega
            have i1 : (a : Int) ≤ 65535 := by omega
            have i2 : (a : Int) < 65536 := by omega
            clear hP hqq hqe hbe
            go_wp2
            go_quiet (fail)
            go_wp2
            exact ⟨⟨a + 1, by omega, val_int (by omega), _, rfl⟩, by simp [intOf]; omega⟩
          · obtain rfl : a = 65536 := by omega
            have i1 : ¬ ((65536 : Nat) : Int) ≤ 65535 := by omega
            go_wp2
            go_meet
            case rel => exact ⟨_, rfl⟩
    case rest =>
    clear y34
    obtain ⟨n3, rfl⟩ := hcut
    go_wp2
    go_ret
    exact ⟨rfl, below_drewN HB7.out _⟩

end Go.Proofs.Ybulkdzvo
