/-
  The row that the law itself makes: make, copy, append, a store.
-/
import Derived.Test.YbulkdzxsWalksC
namespace Go.Proofs.Ybulkdzxs
open Go.RowKit PlainA PlainC Go.Deep
attribute [local go_sem ↓] Go.wp_at_zero Go.wp_at_succ

theorem make_cap (n e : Nat) (h : n ≤ 1048576) (h' : e ≤ 1048576) (w : World) :
    (Instr.makeSlice 22 (.int .i64 (n : Int)) (.int .i64 ((n : Int) + (e : Int)))).run Yba.prog w = .ok (.slice (some ⟨w.heap.size, 0, none⟩) n (n + e)) (w.alloc (.cells (madeCells #[.int .u8 0] (n + e)) 5)) := by
  obtain ⟨i, hi, hz, hs, hb⟩ := info_parts info5
  have := run_make (P := Yba.prog) w 22 5 i _ Yba.underlying22 hi hz .i64 .i64 n (n + e) (by omega) (by omega) (by rw [hb]; omega) (by omega)
  rw [hs, show ((n : Int) + (e : Int)).toNat = n + e by omega, Int.toNat_natCast, Nat.mul_one] at this
  exact this

/-- A row of bytes of the call's own. -/
def Own (w1 : World) (H m : Nat) (ys : List Int) (w : World) : Prop :=
  ys.length = m ∧ (∀ i, 0 ≤ ys.getD i 0 ∧ ys.getD i 0 ≤ 255) ∧ w.rowIs H 5 m (fun j => .int .u8 (ys.getD j 0)) ∧ Below H w1 w

theorem Own.cell {w1 : World} {H m : Nat} {ys : List Int} {w : World} (h : Own w1 H m ys w) {j : Nat} (hj : j < m) : w.cell? ⟨H, j, none⟩ = some (.int .u8 (ys.getD j 0)) := h.2.2.1.cell hj
theorem Own.frozen {w1 : World} {H m : Nat} {ys : List Int} {w : World} (h : Own w1 H m ys w) (j : Nat) : w.frozen? ⟨H, j, none⟩ = false := h.2.2.1.frozen j

theorem getD_replicate (n i : Nat) : (List.replicate n (0 : Int)).getD i 0 = 0 := by
  by_cases h : i < n <;> simp [List.getD_eq_getElem?_getD, h]

theorem own_made (w : World) (m : Nat) : Own w w.heap.size m (List.replicate m 0) (w.alloc (.cells (madeCells #[.int .u8 0] m) 5)) := by
  refine ⟨by simp, fun i => by rw [getD_replicate]; decide, ?_, (Below.refl _ _).alloc (Nat.le_refl _) _⟩
  exact (World.rowIs_made w (.int .u8 0) m 5).congr fun i _ => by rw [getD_replicate]

theorem getD_set (ys : List Int) (i j : Nat) (z : Int) (h : i < ys.length) : (ys.set i z).getD j 0 = if j = i then z else ys.getD j 0 := by
  by_cases e : j = i
  · subst e; simp [List.getD_eq_getElem?_getD, h]
  · rw [if_neg e]; simp [List.getD_eq_getElem?_getD, Ne.symm e]

theorem Own.set {w1 : World} {H m : Nat} {ys : List Int} {w : World} (h : Own w1 H m ys w) (i : Nat) (hi : i < m) (z : Int) (z0 : 0 ≤ z) (z1 : z ≤ 255) :
    Own w1 H m (ys.set i z) (w.setCell ⟨H, i, none⟩ (.int .u8 z)) := by
  obtain ⟨hl, hb, hr, hB⟩ := h
  refine ⟨by simpa using hl, fun j => ?_, ?_, hB.setCell (Nat.le_refl _) _⟩
  · rw [getD_set _ _ _ _ (by omega)]
    split
    · exact ⟨z0, z1⟩
    · exact hb j
  · refine (hr.set i _).congr fun j _ => ?_
    rw [getD_set _ _ _ _ (by omega)]
    split <;> rfl

theorem spl_get {α : Type} (L cs : List α) (off i : Nat) (h : off + cs.length ≤ L.length) :
    (L.take off ++ cs ++ L.drop (off + cs.length))[i]? = if i < off then L[i]? else if i < off + cs.length then cs[i - off]? else L[i]? := by
  have hm : (L.take off).length = off := by simp; omega
  by_cases h1 : i < off
  · rw [if_pos h1, List.append_assoc, List.getElem?_append_left (by omega), List.getElem?_take, if_pos h1]
  · rw [if_neg h1]
    by_cases h2 : i < off + cs.length
    · rw [if_pos h2, List.append_assoc, List.getElem?_append_right (by omega), hm, List.getElem?_append_left (by omega)]
    · rw [if_neg h2, List.getElem?_append_right (by simp; omega), List.getElem?_drop]
      congr 1
      simp
      omega

/-- A row overwritten from 'off' on. -/
theorem own_splice {w1 : World} {H m : Nat} {ys : List Int} {w : World} (h : Own w1 H m ys w) (off : Nat) (zs : List Int) (hz : off + zs.length ≤ m) (hb : ∀ i, 0 ≤ zs.getD i 0 ∧ zs.getD i 0 ≤ 255)
    (cur : Array Value) (hg : w.heap[H]? = some (.cells cur 5 (0, 0))) :
    ∃ ys', Own w1 H m ys' (w.setRow H (cur.toList.take off ++ zs.map (Value.int .u8) ++ cur.toList.drop (off + (zs.map (Value.int .u8)).length)).toArray) := by
  obtain ⟨hl, hby, ⟨c, hc, hcm, hcv⟩, hB⟩ := h
  rw [hg] at hc
  obtain rfl : cur = c := by simpa using hc
  refine ⟨ys.take off ++ zs ++ ys.drop (off + zs.length), by simp; omega, fun i => ?_, ⟨_, setRow_heap _ _ _ _ _ _ hg, by simp; omega, fun i hi => ?_⟩, below_setRow hB (Nat.le_refl _) _⟩
  · rw [List.getD_eq_getElem?_getD, spl_get _ _ _ _ (by omega)]
    split
    · have := hby i; rwa [List.getD_eq_getElem?_getD] at this
    · split
      · have := hb (i - off); rwa [List.getD_eq_getElem?_getD] at this
      · have := hby i; rwa [List.getD_eq_getElem?_getD] at this
  · have hv := hcv i hi
    rw [List.getElem?_toArray, spl_get _ _ _ _ (by simp; omega)]
    show _ = some (Value.int .u8 (List.getD _ i 0))
    rw [List.getD_eq_getElem?_getD, spl_get _ _ _ _ (by omega)]
    by_cases h1 : i < off
    · rw [if_pos h1, if_pos h1, Array.getElem?_toList, hv, ← List.getD_eq_getElem?_getD]
    · rw [if_neg h1, if_neg h1]
      by_cases h2 : i < off + zs.length
      · rw [if_pos (by simpa using h2), if_pos h2, List.getElem?_map]
        simp [show i - off < zs.length by omega]
      · rw [if_neg (by simpa using h2), if_neg h2, Array.getElem?_toList, hv, ← List.getD_eq_getElem?_getD]

/-- 'copy(w, v)' into the row. -/
theorem copy_own {w1 : World} {H m : Nat} {ys : List Int} {w : World} (h : Own w1 H m ys w) (a : Option Addr) (n c : Nat) (zs : List Int) (hz : zs.length = n) (hnm : n ≤ m) (hin : Lib.BytesIn w a n zs) (hb : ∀ i, 0 ≤ zs.getD i 0 ∧ zs.getD i 0 ≤ 255) :
    ∃ w' ys', (Builtin.copy_ #[22, 22] 3 #[.slice (some ⟨H, 0, none⟩) n m, .slice a n c]).run Yba.prog w = .ok (.int .i64 n) w' ∧ Own w1 H m ys' w' := by
  by_cases h0 : n = 0
  · subst h0
    exact ⟨w, ys, run_copy_none (P := Yba.prog) w 22 22 3 5 _ a 0 m 0 c Yba.underlying22 (by kernel_rfl) (by simp), h⟩
  · obtain ⟨b, o, rfl, hc⟩ := hin (by omega)
    have h' := h
    obtain ⟨hl, hby, ⟨cur, hg, hcm, hcv⟩, hB⟩ := h
    obtain ⟨ys', hy⟩ := own_splice h' 0 zs (by omega) hb cur hg
    refine ⟨_, ys', (run_copy_row (P := Yba.prog) w 22 22 3 5 H 0 n m ⟨b, o, none⟩ n c cur 5 (zs.map (Value.int .u8)) Yba.underlying22 (by kernel_rfl) hg (by simp [hz]) ?_ (by simp; omega) ?_).trans (congrArg (fun v => Result.ok v _) (show goInt _ = Value.int .i64 n by rw [List.length_map, hz]; rfl)), hy⟩
    · intro j v hj
      obtain ⟨hj1, hj2⟩ := List.getElem?_eq_some_iff.1 hj
      simp at hj1 hj2
      rw [WideShapes.add_plain, hc j (by omega)]
      simp [List.getD_eq_getElem?_getD, hj1, hj2]
    · intro v hv
      simp at hv
      obtain ⟨z, _, rfl⟩ := hv
      rfl

/-- 'append(w, extra...)' within the row's room. -/
theorem append_own {w1 : World} {H n e : Nat} {ys : List Int} {w : World} (h : Own w1 H (n + e) ys w) (a : Option Addr) (c : Nat) (zs : List Int) (hz : zs.length = e) (h0 : a = none → e = 0) (hin : Lib.BytesIn w a e zs) (hb : ∀ i, 0 ≤ zs.getD i 0 ∧ zs.getD i 0 ≤ 255) :
    ∃ w' ys', (Builtin.append_ #[22, 22] 22 #[.slice (some ⟨H, 0, none⟩) n (n + e), .slice a e c]).run Yba.prog w = .ok (.slice (some ⟨H, 0, none⟩) (n + e) (n + e)) w' ∧ Own w1 H (n + e) ys' w' := by
  obtain ⟨i, hi, hz0, hs, hbt⟩ := info_parts info5
  cases a with
  | none =>
    obtain rfl := h0 rfl
    refine ⟨w, ys, ?_, h⟩
    simp [Builtin.append_, run_underlying Yba.underlying22, sizeOf, typeInfo, hi, Builtin.lenOf, Builtin.firstCells, storeCells]
  | some x =>
    have h' := h
    obtain ⟨hl, hby, ⟨cur, hg, hcm, hcv⟩, hB⟩ := h
    obtain ⟨ys', hy⟩ := own_splice h' n zs (by omega) hb cur hg
    have hr := run_append_room (P := Yba.prog) w 22 22 5 i Yba.underlying22 hi H n (n + e) cur hg x e c (zs.map (Value.int .u8)) (by simp [hs, hz]) ?_ ?_ (by omega) (by simp [hs]; omega)
    · rw [hs, Nat.mul_one] at hr
      exact ⟨_, ys', hr, hy⟩
    · intro j v hj
      obtain ⟨hj1, hj2⟩ := List.getElem?_eq_some_iff.1 hj
      simp at hj1 hj2
      obtain ⟨b, o, he, hc⟩ := hin (by omega)
      cases he
      rw [WideShapes.add_plain, hc j (by omega)]
      simp [List.getD_eq_getElem?_getD, hj1, hj2]
    · intro v hv
      simp at hv
      obtain ⟨z, _, rfl⟩ := hv
      rfl

theorem bin_keep {w w' : World} {p : Option Addr} {n : Nat} {xs : List Int} (h : Lib.BytesIn w p n xs) (hb : Below w.heap.size w w') : Lib.BytesIn w' p n xs := fun hn => by
  obtain ⟨b, o, rfl, hc⟩ := h hn
  refine ⟨b, o, rfl, fun i hi => ?_⟩
  rw [hb.cell (cell_lt (hc i hi))]
  exact hc i hi
theorem bin_drewN {w : World} {p : Option Addr} {n : Nat} {xs : List Int} (h : Lib.BytesIn w p n xs) (k : Nat) : Lib.BytesIn (w.drewN k) p n xs := h
theorem Own.bin {w1 : World} {H m : Nat} {ys : List Int} {w : World} (h : Own w1 H m ys w) : Lib.BytesIn w (some ⟨H, 0, none⟩) m ys := fun _ => ⟨H, 0, rfl, fun i hi => by rw [Nat.zero_add]; exact h.cell hi⟩

end Go.Proofs.Ybulkdzxs
