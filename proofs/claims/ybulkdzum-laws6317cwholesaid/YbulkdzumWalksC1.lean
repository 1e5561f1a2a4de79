/-
  math/bits.Div64, walked: two digits in base 2^32 (PlainC has the mathematics).
-/
import Derived.Test.YbulkdzumShelf
import Derived.Test.YbulkdzumPlainC
import Derived.WalkKit
import Derived.WalkSpells
import Derived.WalkLawsBesides
import Derived.RowKit3
namespace Go.Proofs.Ybulkdzum
open Go.RowKit PlainC

theorem lz_any (y : Int) (w : World) (h0 : 0 < y) (h2 : y < 18446744073709551616) :
    Calls Yba.prog 31 #[.int .u64 y] w fun e w' => (∃ s : Nat, s < 64 ∧ e = .returned (.int .i64 s) ∧ 9223372036854775808 ≤ y * 2 ^ s ∧ y * 2 ^ s < 18446744073709551616) ∧ w' = w := by
  obtain ⟨s, h3, h4, h5, h6⟩ := leading y h0 h2
  refine (Yba.bits_LeadingZeros64 y w (by omega) (by omega)).mono ?_
  rintro e w' ⟨rfl, rfl⟩
  rw [h4]
  exact ⟨⟨s, h3, rfl, h5, h6⟩, rfl⟩

/-- What the shift ahead of the division makes: the words, as the walk spells them. -/
theorem prep (hi lo y : Int) (s : Nat) (hs : s < 64) (h0 : 0 < hi) (h1 : hi < y) (h3 : 0 ≤ lo) (h4 : lo < 18446744073709551616) (g1 : 9223372036854775808 ≤ y * 2 ^ s) (g2 : y * 2 ^ s < 18446744073709551616) :
    ∃ Y y1 y0 u v u1 u0 : Int, y * 2 ^ s = Y ∧ Y / 4294967296 = y1 ∧ bits .and .u64 Y 4294967295 = y0 ∧
      bits .or .u64 (IntKind.u64.wrap (hi * 2 ^ s)) (lo / 2 ^ (64 - s)) = u ∧ IntKind.u64.wrap (lo * 2 ^ s) = v ∧ v / 4294967296 = u1 ∧ bits .and .u64 v 4294967295 = u0 ∧
      y1 * 4294967296 + y0 = Y ∧ 2147483648 ≤ y1 ∧ y1 < 4294967296 ∧ 0 ≤ y0 ∧ y0 < 4294967296 ∧ 0 ≤ u ∧ u < Y ∧ u1 * 4294967296 + u0 = v ∧ 0 ≤ u1 ∧ u1 < 4294967296 ∧ 0 ≤ u0 ∧ u0 < 4294967296 ∧
      u * 18446744073709551616 + v = (hi * 18446744073709551616 + lo) * 2 ^ s := by
  have hS := two_pow_pos s
  have hT := two_pow_pos (64 - s)
  have hp := pow_split s (by omega)
  have hsh := shifted hi lo s (by omega)
  have k1 : hi * 2 ^ s + 2 ^ s ≤ y * 2 ^ s := by
    have := Int.mul_le_mul_of_nonneg_right (show hi + 1 ≤ y by omega) (Int.le_of_lt hS)
    rw [Int.add_mul, Int.one_mul] at this
    exact this
  have k0 : 0 ≤ hi * 2 ^ s := Int.mul_nonneg (by omega) (by omega)
  have d0 : 0 ≤ lo / 2 ^ (64 - s) := Int.ediv_nonneg h3 (by omega)
  have d1 : lo / 2 ^ (64 - s) < 2 ^ s := by
    apply Int.ediv_lt_of_lt_mul hT
    rw [hp]; exact h4
  have hor := or_shift hi (lo / 2 ^ (64 - s)) s (by omega) (by omega) (by omega) d0 d1
  have hw : IntKind.u64.wrap (hi * 2 ^ s) = hi * 2 ^ s := by rw [IntKind.wrap_u64]; omega
  have hv : IntKind.u64.wrap (lo * 2 ^ s) = lo * 2 ^ s % 18446744073709551616 := IntKind.wrap_u64 _
  refine ⟨_, _, _, _, _, _, _, rfl, rfl, rfl, rfl, rfl, rfl, rfl, ?_⟩
  rw [and_low32 _ (by omega) (by omega), and_low32 _ (by rw [hv]; omega) (by rw [hv]; omega), hw, hor, hv, hsh]
  refine ⟨by omega, by omega, by omega, by omega, by omega, by omega, by omega, by omega, by omega, by omega, by omega, by omega, rfl⟩


theorem un21 (u u1 q Y R : Int) (E : u * 4294967296 + u1 = q * Y + R) (r0 : 0 ≤ R) (r1 : R < 18446744073709551616) :
    IntKind.u64.wrap (IntKind.u64.wrap (IntKind.u64.wrap (u * 4294967296) + u1) - IntKind.u64.wrap (q * Y)) = R := by
  simp only [IntKind.wrap_u64]
  omega

/-- The five ways of one round. -/
theorem ways (y1 y0 Y u u1 q r : Int) (F : y1 * 4294967296 + y0 = Y) (a1 : 2147483648 ≤ y1) (a2 : y1 < 4294967296) (b1 : 0 ≤ y0) (b2 : y0 < 4294967296) (c1 : 0 ≤ u) (c2 : u < Y) (d1 : 0 ≤ u1) (d2 : u1 < 4294967296)
    (h : Inv y1 y0 u u1 q r) :
    (4294967296 ≤ q ∧ 0 ≤ q - 1 ∧ r + y1 < 4294967296 ∧ Inv y1 y0 u u1 (q - 1) (r + y1)) ∨
    (q < 4294967296 ∧ 4294967296 * r + u1 < q * y0 ∧ 0 ≤ q - 1 ∧ r + y1 < 4294967296 ∧ Inv y1 y0 u u1 (q - 1) (r + y1)) ∨
    (4294967296 ≤ q ∧ 4294967296 ≤ r + y1 ∧ ∃ q' R, q - 1 = q' ∧ 0 ≤ q' ∧ q' < 4294967296 ∧ 0 ≤ R ∧ R < Y ∧ u * 4294967296 + u1 = q' * Y + R) ∨
    (q < 4294967296 ∧ 4294967296 * r + u1 < q * y0 ∧ 4294967296 ≤ r + y1 ∧ ∃ q' R, q - 1 = q' ∧ 0 ≤ q' ∧ q' < 4294967296 ∧ 0 ≤ R ∧ R < Y ∧ u * 4294967296 + u1 = q' * Y + R) ∨
    (q < 4294967296 ∧ q * y0 ≤ 4294967296 * r + u1 ∧ ∃ R, 0 ≤ R ∧ R < Y ∧ u * 4294967296 + u1 = q * Y + R) := by
  subst F
  have hI := h
  obtain ⟨g1, g2, g3, g4, g5, g6⟩ := h
  have step : (4294967296 ≤ q ∨ 4294967296 * r + u1 < q * y0) →
      0 ≤ q - 1 ∧ (r + y1 < 4294967296 ∧ Inv y1 y0 u u1 (q - 1) (r + y1) ∨ 4294967296 ≤ r + y1 ∧ ∃ q' R, q - 1 = q' ∧ 0 ≤ q' ∧ q' < 4294967296 ∧ 0 ≤ R ∧ R < y1 * 4294967296 + y0 ∧ u * 4294967296 + u1 = q' * (y1 * 4294967296 + y0) + R) := by
    intro t
    obtain ⟨n1, n2, n3, n4, n5⟩ := inv_next y1 y0 u u1 q r a1 b1 b2 c1 c2 d1 d2 hI t
    refine ⟨n1, ?_⟩
    by_cases hr : r + y1 < 4294967296
    · exact Or.inl ⟨hr, n3, n1, by omega, by omega, hr, n4⟩
    · obtain ⟨R, k1, k2, k3, k4⟩ := digit y1 y0 u u1 (q - 1) (r + y1) a1 b1 b2 c2 d2 n3 n1 n4 (n5 (by omega))
      exact Or.inr ⟨by omega, q - 1, R, rfl, n1, k4, k2, k3, k1⟩
  by_cases hq : 4294967296 ≤ q
  · obtain ⟨n, m | m⟩ := step (Or.inl hq)
    · exact Or.inl ⟨hq, n, m⟩
    · exact Or.inr (Or.inr (Or.inl ⟨hq, m⟩))
  · by_cases ht : 4294967296 * r + u1 < q * y0
    · obtain ⟨n, m | m⟩ := step (Or.inr ht)
      · exact Or.inr (Or.inl ⟨by omega, ht, n, m⟩)
      · exact Or.inr (Or.inr (Or.inr (Or.inl ⟨by omega, ht, m⟩)))
    · obtain ⟨R, k1, k2, k3, k4⟩ := digit y1 y0 u u1 q r a1 b1 b2 c2 d2 g1 g2 g6 (by omega)
      exact Or.inr (Or.inr (Or.inr (Or.inr ⟨by omega, by omega, R, k2, k3, k1⟩)))

theorem measure_less (r y1 : Int) (a : 0 < y1) (b : r < 4294967296) : (4294967296 - intOf (.int .u64 (r + y1))).toNat < (4294967296 - intOf (.int .u64 r)).toNat := by
  simp only [intOf]
  omega

theorem start_eq (u y1 : Int) (h : 0 ≤ u - u / y1 * y1) (h' : u - u / y1 * y1 < 4294967296) : IntKind.u64.wrap (u - IntKind.u64.wrap (u / y1 * y1)) = u - u / y1 * y1 := by
  simp only [IntKind.wrap_u64]
  omega

theorem fin_eq (hi lo y : Int) (s : Nat) (Y u v u1 u0 q t R R2 : Int) (E1 : y * 2 ^ s = Y) (F8 : u1 * 4294967296 + u0 = v) (F13 : u * 18446744073709551616 + v = (hi * 18446744073709551616 + lo) * 2 ^ s)
    (D1 : u * 4294967296 + u1 = q * Y + R) (D2 : R * 4294967296 + u0 = t * Y + R2) (n3 : 0 ≤ R2) (n4 : R2 < Y) :
    Ending.returned (.tuple #[.int .u64 (q * 4294967296 + t), .int .u64 (R2 / 2 ^ s)]) = .returned (.tuple #[.int .u64 ((hi * 18446744073709551616 + lo) / y), .int .u64 ((hi * 18446744073709551616 + lo) % y)]) := by
  subst E1
  obtain ⟨a, b⟩ := whole hi lo y (2 ^ s) u v u1 u0 q t R R2 (two_pow_pos s) F13 F8.symm D1 D2 n3 n4
  rw [a, b]

set_option maxHeartbeats 4000000 in
theorem div_any (hi lo y : Int) (w : World) (h0 : 0 < hi) (h1 : hi < y) (h2 : y < 18446744073709551616) (h3 : 0 ≤ lo) (h4 : lo < 18446744073709551616) :
    Calls Yba.prog 29 #[.int .u64 hi, .int .u64 lo, .int .u64 y] w fun e w' => e = .returned (.tuple #[.int .u64 ((hi * 18446744073709551616 + lo) / y), .int .u64 ((hi * 18446744073709551616 + lo) % y)]) ∧ w' = w := by
  go_enter Yba.func29, Yba.ntmps29
  go_wp2_with (go_at_call 31; refine (lz_any _ _ (by omega) (by omega)).mono ?_; rintro e w' ⟨⟨s, hs, rfl, hy1, hy2⟩, rfl⟩; obtain ⟨Y, y1, y0, u, v, u1, u0, e1, e2, e3, e4, e5, e6, e7, f1, f2, f3, f4, f5, f6, f7, f8, f9, f10, f11, f12, f13⟩ := prep hi lo y s hs h0 h1 h3 h4 hy1 hy2; have F1 : Hid (y1 * 4294967296 + y0 = Y) := f1; have F8 : Hid (u1 * 4294967296 + u0 = v) := f8; have F13 : Hid (u * 18446744073709551616 + v = (hi * 18446744073709551616 + lo) * 2 ^ s) := f13; clear f1 f8 f13)
  have E1 : Hid (y * 2 ^ s = Y) := e1
  clear e1 e2 e3 e4 e5 e6 e7
  have YB : Y < 18446744073709551616 := by have := F1.out; omega
  have hst := inv_start y1 y0 u u1 f2 f3 f4 f5 f6 (by rw [F1.out]; exact f7) f10
  go_loop [15, 16] (fun a b => ∃ q r : Int, a = .int .u64 q ∧ b = .int .u64 r ∧ Inv y1 y0 u u1 q r) (fun _ b => (4294967296 - intOf b).toNat)
  case atStart =>
    refine ⟨_, _, rfl, ?_, hst⟩
    obtain ⟨g1, g2, g3, g4, g5, g6⟩ := hst
    rw [start_eq _ _ g4 g5]
  case round =>
    obtain ⟨q, r, rfl, rfl, hI⟩ := hrel
    clear hst
    have hw := ways y1 y0 Y u u1 q r F1.out f2 f3 f4 f5 f6 f7 f9 f10 hI
    obtain ⟨g1, g2, g3, g4, g5, g6⟩ := hI
    clear g1 g6
    have p0 : 0 ≤ q * y0 := Int.mul_nonneg g2 f4
    have p1 : q < 4294967296 → q * y0 < 18446744073709551616 := by
      intro g
      have := Int.mul_nonneg (show 0 ≤ 4294967296 - q by omega) f4
      rw [Int.sub_mul] at this
      omega
    rcases hw with ⟨k1, k2, k3, hI⟩ | ⟨k1, k4, k2, k3, hI⟩ | ⟨k1, k2, q', R, e1, m1, m2, m3, m4, D⟩ | ⟨k1, k4, k2, q', R, e1, m1, m2, m3, m4, D⟩ | ⟨k1, k4, R, m3, m4, D⟩
    · clear p1
      have HI : Hid (Inv y1 y0 u u1 (q - 1) (r + y1)) := hI
      clear hI
      go_wp2
      exact ⟨⟨_, _, rfl, rfl, HI.out⟩, measure_less _ _ (by omega) g5⟩
    · have p2 := p1 k1
      clear p1
      have HI : Hid (Inv y1 y0 u u1 (q - 1) (r + y1)) := hI
      clear hI
      go_wp2
      exact ⟨⟨_, _, rfl, rfl, HI.out⟩, measure_less _ _ (by omega) g5⟩
    · clear p1
      have HD : Hid (u * 4294967296 + u1 = q' * Y + R) := D
      have eR := un21 u u1 q' Y R D m3 (by omega)
      clear D
      go_wp2
      clear eR
      have hst := inv_start y1 y0 R u0 f2 f3 f4 f5 m3 (by rw [F1.out]; exact m4) f12
      go_loop [18, 16] (fun a b => ∃ q r : Int, a = .int .u64 q ∧ b = .int .u64 r ∧ Inv y1 y0 R u0 q r) (fun _ b => (4294967296 - intOf b).toNat)
      case atStart =>
        refine ⟨_, _, rfl, ?_, hst⟩
        obtain ⟨g1, g2, g3, g4, g5, g6⟩ := hst
        rw [start_eq _ _ g4 g5]
      case round =>
        obtain ⟨t, r2, rfl, rfl, hI⟩ := hrel
        clear hst
        have hw := ways y1 y0 Y R u0 t r2 F1.out f2 f3 f4 f5 m3 m4 f11 f12 hI
        obtain ⟨g1', g2', g3', g4', g5', g6'⟩ := hI
        clear g1' g6'
        have p0' : 0 ≤ t * y0 := Int.mul_nonneg g2' f4
        have p1' : t < 4294967296 → t * y0 < 18446744073709551616 := by
          intro g
          have := Int.mul_nonneg (show 0 ≤ 4294967296 - t by omega) f4
          rw [Int.sub_mul] at this
          omega
        rcases hw with ⟨k1', k2', k3', hI⟩ | ⟨k1', k4', k2', k3', hI⟩ | ⟨k1', k2', t', R2, e1', n1, n2, n3, n4, D⟩ | ⟨k1', k4', k2', t', R2, e1', n1, n2, n3, n4, D⟩ | ⟨k1', k4', R2, n3, n4, D⟩
        · clear p1'
          have HI : Hid (Inv y1 y0 R u0 (t - 1) (r2 + y1)) := hI
          clear hI
          go_wp2
          exact ⟨⟨_, _, rfl, rfl, HI.out⟩, measure_less _ _ (by omega) g5'⟩
        · have p2' := p1' k1'
          clear p1'
          have HI : Hid (Inv y1 y0 R u0 (t - 1) (r2 + y1)) := hI
          clear hI
          go_wp2
          exact ⟨⟨_, _, rfl, rfl, HI.out⟩, measure_less _ _ (by omega) g5'⟩
        · first | (have p2' := p1' k1'; clear p1') | clear p1'
          have HD2 : Hid (R * 4294967296 + u0 = t' * Y + R2) := D
          have eR := un21 R u0 t' Y R2 D n3 (by omega)
          clear D
          go_wp2
          go_ret2
          exact ⟨fin_eq hi lo y s Y u v u1 u0 q' t' R R2 E1.out F8.out F13.out HD.out HD2.out n3 n4, rfl⟩
        · first | (have p2' := p1' k1'; clear p1') | clear p1'
          have HD2 : Hid (R * 4294967296 + u0 = t' * Y + R2) := D
          have eR := un21 R u0 t' Y R2 D n3 (by omega)
          clear D
          go_wp2
          go_ret2
          exact ⟨fin_eq hi lo y s Y u v u1 u0 q' t' R R2 E1.out F8.out F13.out HD.out HD2.out n3 n4, rfl⟩
        · have p2' := p1' (by omega)
          clear p1'
          have HD2 : Hid (R * 4294967296 + u0 = t * Y + R2) := D
          have eR := un21 R u0 t Y R2 D n3 (by omega)
          clear D
          go_wp2
          go_ret2
          exact ⟨fin_eq hi lo y s Y u v u1 u0 q' t R R2 E1.out F8.out F13.out HD.out HD2.out n3 n4, rfl⟩
    · have p2 := p1 k1
      clear p1
      have HD : Hid (u * 4294967296 + u1 = q' * Y + R) := D
      have eR := un21 u u1 q' Y R D m3 (by omega)
      clear D
      go_wp2
      clear eR
      have hst := inv_start y1 y0 R u0 f2 f3 f4 f5 m3 (by rw [F1.out]; exact m4) f12
      go_loop [18, 16] (fun a b => ∃ q r : Int, a = .int .u64 q ∧ b = .int .u64 r ∧ Inv y1 y0 R u0 q r) (fun _ b => (4294967296 - intOf b).toNat)
      case atStart =>
        refine ⟨_, _, rfl, ?_, hst⟩
        obtain ⟨g1, g2, g3, g4, g5, g6⟩ := hst
        rw [start_eq _ _ g4 g5]
      case round =>
        obtain ⟨t, r2, rfl, rfl, hI⟩ := hrel
        clear hst
        have hw := ways y1 y0 Y R u0 t r2 F1.out f2 f3 f4 f5 m3 m4 f11 f12 hI
        obtain ⟨g1', g2', g3', g4', g5', g6'⟩ := hI
        clear g1' g6'
        have p0' : 0 ≤ t * y0 := Int.mul_nonneg g2' f4
        have p1' : t < 4294967296 → t * y0 < 18446744073709551616 := by
          intro g
          have := Int.mul_nonneg (show 0 ≤ 4294967296 - t by omega) f4
          rw [Int.sub_mul] at this
          omega
        rcases hw with ⟨k1', k2', k3', hI⟩ | ⟨k1', k4', k2', k3', hI⟩ | ⟨k1', k2', t', R2, e1', n1, n2, n3, n4, D⟩ | ⟨k1', k4', k2', t', R2, e1', n1, n2, n3, n4, D⟩ | ⟨k1', k4', R2, n3, n4, D⟩
        · clear p1'
          have HI : Hid (Inv y1 y0 R u0 (t - 1) (r2 + y1)) := hI
          clear hI
          go_wp2
          exact ⟨⟨_, _, rfl, rfl, HI.out⟩, measure_less _ _ (by omega) g5'⟩
        · have p2' := p1' k1'
          clear p1'
          have HI : Hid (Inv y1 y0 R u0 (t - 1) (r2 + y1)) := hI
          clear hI
          go_wp2
          exact ⟨⟨_, _, rfl, rfl, HI.out⟩, measure_less _ _ (by omega) g5'⟩
        · first | (have p2' := p1' k1'; clear p1') | clear p1'
          have HD2 : Hid (R * 4294967296 + u0 = t' * Y + R2) := D
          have eR := un21 R u0 t' Y R2 D n3 (by omega)
          clear D
          go_wp2
          go_ret2
          exact ⟨fin_eq hi lo y s Y u v u1 u0 q' t' R R2 E1.out F8.out F13.out HD.out HD2.out n3 n4, rfl⟩
        · first | (have p2' := p1' k1'; clear p1') | clear p1'
          have HD2 : Hid (R * 4294967296 + u0 = t' * Y + R2) := D
          have eR := un21 R u0 t' Y R2 D n3 (by omega)
          clear D
          go_wp2
          go_ret2
          exact ⟨fin_eq hi lo y s Y u v u1 u0 q' t' R R2 E1.out F8.out F13.out HD.out HD2.out n3 n4, rfl⟩
        · have p2' := p1' (by omega)
          clear p1'
          have HD2 : Hid (R * 4294967296 + u0 = t * Y + R2) := D
          have eR := un21 R u0 t Y R2 D n3 (by omega)
          clear D
          go_wp2
          go_ret2
          exact ⟨fin_eq hi lo y s Y u v u1 u0 q' t R R2 E1.out F8.out F13.out HD.out HD2.out n3 n4, rfl⟩
    · have p2 := p1 k1
      clear p1
      have HD : Hid (u * 4294967296 + u1 = q * Y + R) := D
      have eR := un21 u u1 q Y R D m3 (by omega)
      clear D
      go_wp2
      clear eR
      have hst := inv_start y1 y0 R u0 f2 f3 f4 f5 m3 (by rw [F1.out]; exact m4) f12
      go_loop [18, 16] (fun a b => ∃ q r : Int, a = .int .u64 q ∧ b = .int .u64 r ∧ Inv y1 y0 R u0 q r) (fun _ b => (4294967296 - intOf b).toNat)
      case atStart =>
        refine ⟨_, _, rfl, ?_, hst⟩
        obtain ⟨g1, g2, g3, g4, g5, g6⟩ := hst
        rw [start_eq _ _ g4 g5]
      case round =>
        obtain ⟨t, r2, rfl, rfl, hI⟩ := hrel
        clear hst
        have hw := ways y1 y0 Y R u0 t r2 F1.out f2 f3 f4 f5 m3 m4 f11 f12 hI
        obtain ⟨g1', g2', g3', g4', g5', g6'⟩ := hI
        clear g1' g6'
        have p0' : 0 ≤ t * y0 := Int.mul_nonneg g2' f4
        have p1' : t < 4294967296 → t * y0 < 18446744073709551616 := by
          intro g
          have := Int.mul_nonneg (show 0 ≤ 4294967296 - t by omega) f4
          rw [Int.sub_mul] at this
          omega
        rcases hw with ⟨k1', k2', k3', hI⟩ | ⟨k1', k4', k2', k3', hI⟩ | ⟨k1', k2', t', R2, e1', n1, n2, n3, n4, D⟩ | ⟨k1', k4', k2', t', R2, e1', n1, n2, n3, n4, D⟩ | ⟨k1', k4', R2, n3, n4, D⟩
        · clear p1'
          have HI : Hid (Inv y1 y0 R u0 (t - 1) (r2 + y1)) := hI
          clear hI
          go_wp2
          exact ⟨⟨_, _, rfl, rfl, HI.out⟩, measure_less _ _ (by omega) g5'⟩
        · have p2' := p1' k1'
          clear p1'
          have HI : Hid (Inv y1 y0 R u0 (t - 1) (r2 + y1)) := hI
          clear hI
          go_wp2
          exact ⟨⟨_, _, rfl, rfl, HI.out⟩, measure_less _ _ (by omega) g5'⟩
        · first | (have p2' := p1' k1'; clear p1') | clear p1'
          have HD2 : Hid (R * 4294967296 + u0 = t' * Y + R2) := D
          have eR := un21 R u0 t' Y R2 D n3 (by omega)
          clear D
          go_wp2
          go_ret2
          exact ⟨fin_eq hi lo y s Y u v u1 u0 q t' R R2 E1.out F8.out F13.out HD.out HD2.out n3 n4, rfl⟩
        · first | (have p2' := p1' k1'; clear p1') | clear p1'
          have HD2 : Hid (R * 4294967296 + u0 = t' * Y + R2) := D
          have eR := un21 R u0 t' Y R2 D n3 (by omega)
          clear D
          go_wp2
          go_ret2
          exact ⟨fin_eq hi lo y s Y u v u1 u0 q t' R R2 E1.out F8.out F13.out HD.out HD2.out n3 n4, rfl⟩
        · have p2' := p1' (by omega)
          clear p1'
          have HD2 : Hid (R * 4294967296 + u0 = t * Y + R2) := D
          have eR := un21 R u0 t Y R2 D n3 (by omega)
          clear D
          go_wp2
          go_ret2
          exact ⟨fin_eq hi lo y s Y u v u1 u0 q t R R2 E1.out F8.out F13.out HD.out HD2.out n3 n4, rfl⟩

end Go.Proofs.Ybulkdzum
