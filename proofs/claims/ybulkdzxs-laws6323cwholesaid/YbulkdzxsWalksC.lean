/-
  firstDifference and bytes.Clone at whatever address, walked.
-/
import Derived.Test.YbulkdzxsWalksA2
import Derived.Test.YbulkdzxsPlainC
namespace Go.Proofs.Ybulkdzxs
open Go.RowKit PlainA PlainC Go.Deep
attribute [local go_sem ↓] Go.wp_at_zero Go.wp_at_succ

theorem fd_zero (a b : Option Addr) (c m d : Nat) (w : World) :
    Calls Yba.prog 12 #[.slice a 0 c, .slice b m d] w fun e w' => e = .returned (.int .i64 (-1)) ∧ w' = w := by
  go_enter Yba.func12, Yba.ntmps12
  go_wp2
  refine wp_loop_rounds 1 ?_
  rw [rounds_succ]
  go_wp2
  go_ret
  exact ⟨rfl, rfl⟩

set_option maxHeartbeats 1000000 in
theorem fd_some (g1 o1 n c1 g2 o2 m c2 : Nat) (zs ys : List Int) (w : World) (hn : n ≤ 1048576) (hm : n ≤ m)
    (hc1 : ∀ j, j < n → w.cell? ⟨g1, o1 + j, none⟩ = some (.int .u8 (zs.getD j 0))) (hc2 : ∀ j, j < n → w.cell? ⟨g2, o2 + j, none⟩ = some (.int .u8 (ys.getD j 0)))
    (hw1 : ∀ i, 0 ≤ zs.getD i 0 ∧ zs.getD i 0 ≤ 255) (hw2 : ∀ i, 0 ≤ ys.getD i 0 ∧ ys.getD i 0 ≤ 255) :
    Calls Yba.prog 12 #[.slice (some ⟨g1, o1, none⟩) n c1, .slice (some ⟨g2, o2, none⟩) m c2] w fun e w' => (∃ r, e = .returned (.int .i64 r) ∧ IsFirst zs ys (8 * n) r) ∧ ∃ nq, w' = w.drewN nq := by
  have H1 := hide hc1
  have H2 := hide hc2
  have B1 := hide hw1
  have B2 := hide hw2
  clear hc1 hc2 hw1 hw2
  go_enter Yba.func12, Yba.ntmps12
  go_wp2
  go_loopw [9] (fun a wr => ∃ i q : Nat, i ≤ n ∧ a = .int .i64 i ∧ wr = w.drewN q ∧ Hid (∀ j, j < 8 * i → bitAt zs j = bitAt ys j)) (fun a _ => n - (intOf a).toNat)
  case atStart => exact ⟨0, 0, by omega, rfl, rfl, fun j hj => by omega⟩
  case round =>
    obtain ⟨i, q, hi, rfl, rfl, HP⟩ := hrel
    by_cases hlt : i < n
    · have x1 := H1.out i hlt
      have x2 := H2.out i hlt
      have b1 := B1.out i
      have b2 := B2.out i
      obtain ⟨a, ha⟩ := Int.eq_ofNat_of_zero_le b1.1
      obtain ⟨b, hb⟩ := Int.eq_ofNat_of_zero_le b2.1
      have hxor := bits_xor_u8_nat a b (by omega) (by omega)
      have hxl : a ^^^ b < 2 ^ 8 := Nat.xor_lt_two_pow (by omega) (by omega)
      obtain ⟨x, hx⟩ : ∃ x, a ^^^ b = x := ⟨_, rfl⟩
      rw [hx] at hxor hxl
      rw [ha] at x1
      rw [hb] at x2
      have HA := hide ha
      have HB := hide hb
      have HX := hide hx
      have i1 : (i : Int) < n := by omega
      have i2 : (i : Int) < m := by omega
      have hxb : x < 256 := by omega
      clear b1 b2 ha hb hx hxl
      by_cases hz : x = 0
      · subst hz
        go_wp2
        go_quiet (fail)
        go_wp2
        have e : zs.getD i 0 = ys.getD i 0 := by rw [HA.out, HB.out, xor_zero HX.out]
        exact ⟨⟨i + 1, q + nq, by omega, val_int (by omega), rfl, first_step HP.out e⟩, by simp [intOf]; omega⟩
      · have hz' : ((x : Int) != 0) = true := by simp; omega
        have hL : (Lib.bitLen x : Int) ≤ 8 := by have := Lib.bitLen_le x 8 (by omega) (by omega); omega
        go_wp2
        go_quiet (fail)
        go_wp2_with (go_at_call 14; refine (Yba.bits_LeadingZeros8 _ _ (by omega) (by omega)).mono ?_; rintro e w' ⟨rfl, rfl⟩)
        go_ret
        refine ⟨⟨_, rfl, ?_⟩, q + nq, rfl⟩
        have hf := first_found hlt HP.out a b HA.out HB.out (by have := B1.out i; rw [HA.out] at this; omega) (by have := B2.out i; rw [HB.out] at this; omega) (by rw [HX.out]; exact hz)
        rw [HX.out] at hf
        exact hf
    · obtain rfl : i = n := by omega
      go_wp2
      go_ret
      exact ⟨⟨_, rfl, Or.inl ⟨rfl, HP.out⟩⟩, q, rfl⟩

/-- bytes.Clone, whatever the address. -/
theorem clone_any (a : Option Addr) (n c : Nat) (zs : List Int) (w : World) (hz : zs.length = n) (hn : n ≤ 140737488355328) (h : Lib.BytesIn w a n zs) (h0 : a = none → n = 0) :
    Calls Yba.prog 11 #[.slice a n c] w fun e w' => ∃ p d, e = .returned (.slice p n d) ∧ Lib.BytesIn w' p n zs ∧ Below w.heap.size w w' := by
  cases a with
  | none =>
    obtain rfl := h0 rfl
    refine (Yba.bytes_Clone_nil 0 c w).mono ?_
    rintro e w' ⟨rfl, rfl⟩
    exact ⟨none, 0, rfl, Lib.BytesIn.nil _ _ _, Below.refl _ _⟩
  | some x =>
    refine (Yba.bytes_Clone_at x n c zs w hz hn ?_).mono ?_
    · intro i hi
      obtain ⟨b, o, he, hc⟩ := h (by omega)
      cases he
      rw [WideShapes.add_plain]
      exact hc i hi
    · rintro e w' ⟨v, rfl, hown, _, hb⟩
      obtain ⟨hl, h2⟩ := hown
      rcases h2 with ⟨rfl, rfl⟩ | ⟨g, cap, cur, rfl, _, hg, _, _, _, ht⟩
      · exact ⟨none, 0, rfl, Lib.BytesIn.nil _ _ _, hb⟩
      · refine ⟨_, cap, rfl, fun _ => ⟨g, 0, rfl, fun i hi => ?_⟩, hb⟩
        rw [Nat.mul_one] at ht
        have h1 : cur[i]? = some (.int .u8 (zs.getD i 0)) := by
          have h2 : (cur.toList.take n)[i]? = (zs.map (Value.int .u8))[i]? := by rw [ht]
          rw [List.getElem?_take, if_pos hi] at h2
          rw [← Array.getElem?_toList, h2]
          simp [List.getD_eq_getElem?_getD, show i < zs.length by omega]
        simp [World.cell?, hg, h1]

end Go.Proofs.Ybulkdzxs
