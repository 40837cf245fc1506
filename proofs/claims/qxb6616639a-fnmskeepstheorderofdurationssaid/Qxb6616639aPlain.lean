/-
  THE PLAIN LAWS: what the two tests come to, on words alone.
-/
import Derived.Test.Qxb6616639aMs
import Derived.RowKit
namespace Go.Proofs.Qxb6616639a
open Ieee Go.RowKit

theorem cmp_lt {v u : Int} (h : v < u) : compare v u = .lt := by simp [compare, compareOfLessAndEq, h]
theorem cmp_gt {v u : Int} (h : u < v) : compare v u = .gt := by
  have h1 : ¬ v < u := by omega
  have h2 : ¬ v = u := by omega
  simp [compare, compareOfLessAndEq, h1, h2]
theorem cmp_eq {v u : Int} (h : v = u) : compare v u = .eq := by
  have h1 : ¬ v < u := by omega
  simp [compare, compareOfLessAndEq, h]

theorem ord_lt {x y : Nat} {v u : Int} (hx : Val x v) (hy : Val y u) (h : v < u) : FloatKind.f64.format.order x y = some .lt := by
  have := val_order hx hy
  rw [cmp_lt h] at this
  exact this
theorem ord_gt {x y : Nat} {v u : Int} (hx : Val x v) (hy : Val y u) (h : u < v) : FloatKind.f64.format.order x y = some .gt := by
  have := val_order hx hy
  rw [cmp_gt h] at this
  exact this
theorem ord_eq {x y : Nat} {v u : Int} (hx : Val x v) (hy : Val y u) (h : v = u) : FloatKind.f64.format.order x y = some .eq := by
  have := val_order hx hy
  rw [cmp_eq h] at this
  exact this

theorem quo_rem (a : Int) : ∃ q r, a.tdiv 1000000 = q ∧ a.tmod 1000000 = r ∧ a = 1000000 * q + r ∧ -1000000 < r ∧ r < 1000000 ∧ (0 ≤ a → 0 ≤ r) ∧ (a ≤ 0 → r ≤ 0) := by
  refine ⟨_, _, rfl, rfl, ?_⟩
  have h1 := Int.mul_tdiv_add_tmod a 1000000
  have h2 : a.tmod 1000000 < 1000000 := Int.tmod_lt_of_pos a (by omega)
  have h3 : 0 ≤ a → 0 ≤ a.tmod 1000000 := fun h => Int.tmod_nonneg _ h
  have h4 : (-a).tmod 1000000 = -(a.tmod 1000000) := Int.neg_tmod a 1000000
  have h5 : (-a).tmod 1000000 < 1000000 := Int.tmod_lt_of_pos _ (by omega)
  have h6 : 0 ≤ -a → 0 ≤ (-a).tmod 1000000 := fun h => Int.tmod_nonneg _ h
  refine ⟨h1.symm, by omega, h2, h3, fun h => ?_⟩
  have := h6 (by omega)
  omega

theorem fi_val (a : Int) (h : a.natAbs ≤ 9007199254740992) : Val (floatOfInt .f64 a) (2097152 * (a * (T : Int))) := by
  obtain ⟨s, m, i, r1, r2, r3, _⟩ := word_val a h
  rw [← r3]
  exact val_read r1 r2

theorem mul_step (a b k : Int) (h : b = 1000000 * a + k) : b * (T : Int) = 1000000 * (a * (T : Int)) + k * (T : Int) := by
  rw [h, Int.add_mul, Int.mul_assoc]

theorem wrap_small (x : Int) (h : x.natAbs ≤ 9007199254740993) : wrap64 x = x := by
  unfold wrap64
  omega

/-- The first law's three ways. -/
theorem law1 (a : Int) (h : a.natAbs ≤ 9007199254740992) : ∃ W, double.div (floatOfInt .f64 a) 4696837146684686336 = some W ∧
    (a.tmod 1000000 = 0 → FloatKind.f64.format.order W (floatOfInt .f64 (a.tdiv 1000000)) = some .eq) ∧
    (a.tmod 1000000 ≠ 0 → 0 < a → FloatKind.f64.format.order (floatOfInt .f64 (a.tdiv 1000000)) W = some .lt ∧ FloatKind.f64.format.order W (floatOfInt .f64 (wrap64 (a.tdiv 1000000 + 1))) = some .lt) ∧
    (a.tmod 1000000 ≠ 0 → ¬ 0 < a → FloatKind.f64.format.order (floatOfInt .f64 (wrap64 (a.tdiv 1000000 - 1))) W = some .lt ∧ FloatKind.f64.format.order W (floatOfInt .f64 (a.tdiv 1000000)) = some .lt) := by
  obtain ⟨W, s, m, i, v, d1, d2, d3, d4, _, b1, b2, _, b3⟩ := ms_val a h
  have hv : Val W v := by
    rw [← d4]
    exact val_read d2 d3
  obtain ⟨q, r, hq, hr, e, r1, r2, r3, r4⟩ := quo_rem a
  have hT : (0 : Int) < T := by have := T_pos; omega
  rw [hq, hr]
  have st := mul_step q a r e
  refine ⟨W, d1, fun h0 => ord_eq hv (fi_val q (by omega)) (b3 q (by omega)), fun h0 hp => ?_, fun h0 hp => ?_⟩
  · rw [wrap_small (q + 1) (by omega)]
    have l1 : 1 * (T : Int) ≤ r * (T : Int) := Int.mul_le_mul_of_nonneg_right (by have := r3 (by omega); omega) (by omega)
    have l2 : r * (T : Int) ≤ 999999 * (T : Int) := Int.mul_le_mul_of_nonneg_right (by omega) (by omega)
    refine ⟨ord_lt (fi_val q (by omega)) hv (by omega), ord_lt hv (fi_val (q + 1) (by omega)) ?_⟩
    rw [Int.add_mul]
    omega
  · rw [wrap_small (q - 1) (by omega)]
    have l1 : r * (T : Int) ≤ -1 * (T : Int) := Int.mul_le_mul_of_nonneg_right (by have := r4 (by omega); omega) (by omega)
    have l2 : -999999 * (T : Int) ≤ r * (T : Int) := Int.mul_le_mul_of_nonneg_right (by omega) (by omega)
    refine ⟨ord_lt (fi_val (q - 1) (by omega)) hv ?_, ord_lt hv (fi_val q (by omega)) (by omega)⟩
    rw [Int.sub_mul]
    omega

/-- Order. -/
theorem law2_order (a b : Int) (ha : a.natAbs ≤ 2251799813685248) (hb : b.natAbs ≤ 2251799813685248) (h : a < b) (x y : Nat) (hx : double.div (floatOfInt .f64 a) 4696837146684686336 = some x) (hy : double.div (floatOfInt .f64 b) 4696837146684686336 = some y) :
    FloatKind.f64.format.order x y = some .lt ∧ FloatKind.f64.format.order y x = some .gt := by
  obtain ⟨W, s, m, i, v, d1, d2, d3, d4, _, _, _, b1, _⟩ := ms_val a (by omega)
  obtain ⟨W', s', m', i', v', d1', d2', d3', d4', _, _, _, b1', _⟩ := ms_val b (by omega)
  obtain rfl : W = x := Option.some.inj (d1.symm.trans hx)
  obtain rfl : W' = y := Option.some.inj (d1'.symm.trans hy)
  have hv : Val W v := by
    rw [← d4]
    exact val_read d2 d3
  have hv' : Val W' v' := by
    rw [← d4']
    exact val_read d2' d3'
  have hT : (0 : Int) < T := by have := T_pos; omega
  obtain ⟨_, c2⟩ := b1' hb
  obtain ⟨c1, _⟩ := b1 ha
  have l1 : (a + 1) * (T : Int) ≤ b * (T : Int) := Int.mul_le_mul_of_nonneg_right (by omega) (by omega)
  rw [Int.add_mul] at l1
  have : v < v' := by omega
  exact ⟨ord_lt hv hv' this, ord_gt hv' hv this⟩

theorem law2_same (a : Int) (ha : a.natAbs ≤ 2251799813685248) (x : Nat) (hx : double.div (floatOfInt .f64 a) 4696837146684686336 = some x) : FloatKind.f64.format.order x x = some .eq := by
  obtain ⟨W, s, m, i, v, d1, d2, d3, d4, _⟩ := ms_val a (by omega)
  obtain rfl : W = x := Option.some.inj (d1.symm.trans hx)
  exact ord_eq (val_read d2 d3) (val_read d2 d3) rfl

theorem sgn_abs (s : Bool) (n : Nat) : (sgn s n).natAbs = n := by
  unfold sgn
  cases s
  · rw [if_neg (by decide)]; omega
  · rw [if_pos rfl]; omega

theorem sc_one (z : Nat) : z * two 1074 = 2097152 * (z * T) := by rw [one_T, Nat.mul_left_comm]

theorem T_cancel {a b : Int} (h : 2097152 * (a * (T : Int)) = 2097152 * (b * (T : Int))) : a = b := by
  have hT : (T : Int) ≠ 0 := by have := T_pos; omega
  exact Int.eq_of_mul_eq_mul_right hT (by omega)

/-- Whole milliseconds add exactly. -/
theorem law2_add (a b : Int) (ha : a.natAbs ≤ 2251799813685248) (hb : b.natAbs ≤ 2251799813685248) (ra : a.tmod 1000000 = 0) (rb : b.tmod 1000000 = 0) (x y : Nat) (hx : double.div (floatOfInt .f64 a) 4696837146684686336 = some x) (hy : double.div (floatOfInt .f64 b) 4696837146684686336 = some y) :
    ∃ z r, double.div (floatOfInt .f64 (wrap64 (a + b))) 4696837146684686336 = some z ∧ floatBits .add .f64 x y = some r ∧ FloatKind.f64.format.order z r = some .eq := by
  rw [wrap_small (a + b) (by omega)]
  obtain ⟨p, r, _, hr, e, _⟩ := quo_rem a
  obtain ⟨q, r', _, hr', e', _⟩ := quo_rem b
  obtain ⟨W, s, m, i, v, d1, d2, d3, d4, d5, _, _, _, b1⟩ := ms_val a (by omega)
  obtain ⟨W', s', m', i', v', d1', d2', d3', d4', _, _, _, _, b1'⟩ := ms_val b (by omega)
  obtain ⟨Z, s2, m2, i2, u, f1, f2, f3, f4, _, _, _, _, g1⟩ := ms_val (a + b) (by omega)
  obtain rfl : W = x := Option.some.inj (d1.symm.trans hx)
  obtain rfl : W' = y := Option.some.inj (d1'.symm.trans hy)
  have hvp := b1 p (by omega)
  have hvq := b1' q (by omega)
  have hu := g1 (p + q) (by omega)
  obtain ⟨neg, mag, k1, k2⟩ := sum_num s s' m m' i i' d3 d3'
  have hadd : floatBits .add .f64 W W' = some (double.nearest neg mag (min i i')) := by
    show double.add W W' = _
    unfold Format.add
    rw [d2, d2', k1]
    rfl
  rw [d4, d4', hvp, hvq] at k2
  have k3 : sgn neg (sc mag (min i i')) = 2097152 * ((p + q) * (T : Int)) := by
    rw [k2, Int.add_mul]
    omega
  have i0 : i ≤ 0 := by
    rcases d5 with ⟨_, _, h⟩ | ⟨_, _, hm⟩
    · omega
    · by_cases hi : i ≤ 0
      · exact hi
      · exfalso
        have h1 : 4503599627370496 * two 1074 ≤ sc m i := Nat.mul_le_mul hm (two_mono (by omega))
        have h2 := congrArg Int.natAbs (d4.trans hvp)
        rw [sgn_abs] at h2
        rw [sc_one] at h1
        have h3 : (2097152 * (p * (T : Int))).natAbs = 2097152 * (p.natAbs * T) := by
          rw [Int.natAbs_mul, Int.natAbs_mul]
          rfl
        rw [h3] at h2
        have h4 : p.natAbs * T ≤ 4503599627370495 * T := Nat.mul_le_mul_right _ (by omega)
        have := T_pos
        omega
  have habs : sc mag (min i i') = (p + q).natAbs * two 1074 := by
    have h2 := congrArg Int.natAbs k3
    rw [sgn_abs, Int.natAbs_mul, Int.natAbs_mul] at h2
    rw [h2, sc_one]
    rfl
  have hr := round_whole neg mag (min i i') (p + q).natAbs (by omega) (by omega) (by omega) habs
  refine ⟨Z, _, f1, hadd, ?_⟩
  have hZ : Val Z u := by
    rw [← f4]
    exact val_read f2 f3
  refine ord_eq hZ hr ?_
  rw [← habs, k3, hu]

theorem sc_down (c : Nat) : sc c (-52) = c * two 1022 := rfl

theorem one_val : Val 4607182418800017408 (2097152 * (T : Int)) := by
  have h := val_read (x := 4607182418800017408) (s := false) (m := 4503599627370496) (i := -52) (by decide) (by omega)
  have e : sc 4503599627370496 (-52) = 2097152 * T := by
    have h1 := sc_down 4503599627370496
    rw [h1, ← one_T, show (1074 : Nat) = 52 + 1022 from rfl, two_add, show two 52 = 4503599627370496 from two52]
  rw [e] at h
  unfold sgn at h
  rw [if_neg (by decide)] at h
  have e2 : ((2097152 * T : Nat) : Int) = 2097152 * (T : Int) := by omega
  rw [e2] at h
  exact h

theorem minus_val : Val 13830554455654793216 (-(2097152 * (T : Int))) := by
  have h := val_read (x := 13830554455654793216) (s := true) (m := 4503599627370496) (i := -52) (by decide) (by omega)
  have e : sc 4503599627370496 (-52) = 2097152 * T := by
    have h1 := sc_down 4503599627370496
    rw [h1, ← one_T, show (1074 : Nat) = 52 + 1022 from rfl, two_add, show two 52 = 4503599627370496 from two52]
  rw [e] at h
  unfold sgn at h
  rw [if_pos rfl] at h
  have e2 : ((2097152 * T : Nat) : Int) = 2097152 * (T : Int) := by omega
  rw [e2] at h
  exact h

/-- 'ms' lies less than one away from the whole milliseconds. -/
theorem law2_diff (a : Int) (ha : a.natAbs ≤ 2251799813685248) (x : Nat) (hx : double.div (floatOfInt .f64 a) 4696837146684686336 = some x) :
    ∃ d, floatBits .sub .f64 x (floatOfInt .f64 (a.tdiv 1000000)) = some d ∧ FloatKind.f64.format.order d 13830554455654793216 = some .gt ∧ FloatKind.f64.format.order d 4607182418800017408 = some .lt := by
  obtain ⟨q, r, hq, hr, e, r1, r2, r3, r4⟩ := quo_rem a
  rw [hq]
  obtain ⟨W, s, m, i, v, d1, d2, d3, d4, d5, _, _, b1, _⟩ := ms_val a (by omega)
  obtain rfl : W = x := Option.some.inj (d1.symm.trans hx)
  obtain ⟨t, n, j, f1, f2, f3, f4⟩ := word_val q (by omega)
  obtain ⟨neg, mag, k1, k2⟩ := sum_num s (!t) m n i j d3 f2
  have hsub : floatBits .sub .f64 W (floatOfInt .f64 q) = some (double.nearest neg mag (min i j)) := by
    show double.sub W (floatOfInt .f64 q) = _
    unfold Format.sub
    rw [d2, f1]
    have : (Datum.number t n j).opposite = .number (!t) n j := rfl
    rw [this, k1]
    rfl
  have hopp : sgn (!t) (sc n j) = -sgn t (sc n j) := by
    unfold sgn
    cases t
    · simp
    · simp
  rw [hopp, d4, f3] at k2
  obtain ⟨c1, c2⟩ := b1 ha
  have st := mul_step q a r e
  have hT := T_pos
  have l1 : r * (T : Int) ≤ 999999 * (T : Int) := Int.mul_le_mul_of_nonneg_right (by omega) (by omega)
  have l2 : -999999 * (T : Int) ≤ r * (T : Int) := Int.mul_le_mul_of_nonneg_right (by omega) (by omega)
  have hlt : sc mag (min i j) ≤ 2097151 * T := by
    have h2 := congrArg Int.natAbs k2
    rw [sgn_abs] at h2
    omega
  refine ⟨_, hsub, ?_⟩
  have fin : ∃ u, Val (double.nearest neg mag (min i j)) (sgn neg u) ∧ u < 2097152 * T := by
    rcases Nat.eq_zero_or_pos mag with h0 | h0
    · subst h0
      have h := val_read (nearest_zero neg (min i j)) (by omega)
      refine ⟨_, h, ?_⟩
      unfold sc
      rw [Nat.zero_mul]
      omega
    · have hL : -1074 ≤ min i j + mag.log2 - 52 := by
        by_cases hz : -100 ≤ min i j
        · omega
        · have big : 4503599627370496 ≤ mag → 52 ≤ mag.log2 := fun h => (Nat.le_log2 (by omega)).2 (by rw [two52]; exact h)
          have eqm : ∀ c k, 4503599627370496 ≤ c → -1074 ≤ k → sc mag (-1074) = sc c k → 4503599627370496 ≤ mag := fun c k hc hk hh => by
            have h1 : sc mag (-1074) = mag * 1 := rfl
            have h2 : sc c k = c * two (k + 1074).toNat := rfl
            rw [h1, Nat.mul_one, h2] at hh
            rw [hh]
            exact Nat.le_trans hc (Nat.le_mul_of_pos_right _ (two_pos _))
          have z0 : ∀ k, sc 0 k = 0 := fun k => Nat.zero_mul _
          rcases d5 with ⟨A0, M0, I0⟩ | ⟨A0, I0, M0⟩
          · rcases f4 with ⟨B0, N0, J0⟩ | ⟨B0, J0, N0⟩
            · exfalso
              subst M0 N0
              rw [← d4, ← f3, z0, z0, sgn_zero, sgn_zero] at k2
              have h2 := congrArg Int.natAbs k2
              rw [sgn_abs] at h2
              have h3 : 0 < sc mag (min i j) := Nat.mul_pos h0 (two_pos _)
              rw [h2] at h3
              exact absurd h3 (by decide)
            · exfalso
              omega
          · rcases f4 with ⟨B0, N0, J0⟩ | ⟨B0, J0, N0⟩
            · have hmin : min i j = -1074 := by omega
              subst N0
              rw [← d4, ← f3, z0, sgn_zero] at k2
              have h2 := congrArg Int.natAbs k2
              rw [Int.neg_zero, Int.add_zero, sgn_abs, sgn_abs, hmin] at h2
              have := big (eqm m i M0 d3 h2)
              omega
            · omega
      obtain ⟨u, hu, hb⟩ := round_bound neg mag (min i j) h0 (by omega) hL (by rw [one_T]; omega)
      exact ⟨u, hu, by omega⟩
  obtain ⟨u, hu, hub⟩ := fin
  have hs1 : sgn neg u < 2097152 * (T : Int) := by
    unfold sgn
    split <;> omega
  have hs2 : -(2097152 * (T : Int)) < sgn neg u := by
    unfold sgn
    split <;> omega
  exact ⟨ord_gt hu minus_val hs2, ord_lt hu one_val hs1⟩

end Go.Proofs.Qxb6616639a
