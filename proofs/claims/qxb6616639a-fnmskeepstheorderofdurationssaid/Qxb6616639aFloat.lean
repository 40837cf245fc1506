/-
  PLAIN FACTS ON DOUBLES: what a word stands for, at the scale of the least place; rounding to nearest; when a result is exact.
-/
import Derived.Laws.FloatArith
namespace Go.Proofs.Qxb6616639a
open Ieee

/-- A power of two, behind a name. -/
def two (n : Nat) : Nat := 2 ^ n

theorem two_add (a b : Nat) : two (a + b) = two a * two b := Nat.pow_add 2 a b
theorem two_pos (a : Nat) : 0 < two a := Nat.two_pow_pos a
theorem two_mono {a b : Nat} (h : a ≤ b) : two a ≤ two b := Nat.pow_le_pow_right (by omega) h
theorem two_succ (a : Nat) : two (a + 1) = 2 * two a := by unfold two; rw [Nat.pow_succ]; omega

/-- The word x stands for the number v / 2 ^ 1074. -/
def Val (x : Nat) (v : Int) : Prop := ∃ s m i, double.read x = .number s m i ∧ -1074 ≤ i ∧ v = signed s m (i + 1074).toNat

theorem signed_add (s : Bool) (m a b : Nat) : signed s m (a + b) = signed s m a * (2 ^ b : Nat) := by
  unfold signed
  rw [Nat.shiftLeft_eq, Nat.shiftLeft_eq, Nat.pow_add, ← Nat.mul_assoc]
  split
  · rw [Int.natCast_mul (m * 2 ^ a) (2 ^ b), Int.neg_mul]
  · rw [Int.natCast_mul (m * 2 ^ a) (2 ^ b)]

theorem compare_scale (a b : Int) (c : Nat) (hc : 0 < c) : compare (a * (c : Int)) (b * (c : Int)) = compare a b := by
  have hc' : (0 : Int) < c := by omega
  simp only [compare, compareOfLessAndEq]
  by_cases h : a < b
  · rw [if_pos h, if_pos (Int.mul_lt_mul_of_pos_right h hc')]
  · have h1 : ¬ a * (c : Int) < b * (c : Int) := fun h2 => h (Int.lt_of_mul_lt_mul_right h2 (Int.le_of_lt hc'))
    rw [if_neg h, if_neg h1]
    by_cases e : a = b
    · rw [if_pos e, if_pos (by rw [e])]
    · rw [if_neg e, if_neg (fun h2 => e (Int.eq_of_mul_eq_mul_right (by omega) h2))]

theorem val_order {x y : Nat} {v u : Int} (hx : Val x v) (hy : Val y u) : double.order x y = some (compare v u) := by
  obtain ⟨s, m, i, hr, hi, rfl⟩ := hx
  obtain ⟨t, n, j, hr', hj, rfl⟩ := hy
  unfold Format.order Datum.order
  rw [hr, hr']
  simp only
  congr 1
  obtain ⟨d, hd⟩ : ∃ d : Nat, (min i j + 1074).toNat = d := ⟨_, rfl⟩
  have e1 : (i + 1074).toNat = (i - min i j).toNat + d := by omega
  have e2 : (j + 1074).toNat = (j - min i j).toNat + d := by omega
  rw [e1, e2, signed_add, signed_add, compare_scale _ _ _ (Nat.two_pow_pos d)]

/-- The word of a sign and a rung that is finite. -/
theorem read_word (neg : Bool) (e kept : Nat) (he : e ≤ 2044) (h1 : 4503599627370496 ≤ kept) (h2 : kept ≤ 9007199254740992) :
    ∃ m i, double.read (double.word neg (min (e * 4503599627370496 + kept) (2047 * 4503599627370496))) = .number neg m i ∧ -1074 ≤ i ∧ m * 2 ^ (i + 1074).toNat = kept * 2 ^ e ∧ 4503599627370496 ≤ m ∧ m < 9007199254740992 ∧ i ≤ e - 1073 ∧ (e : Int) - 1074 ≤ i := by
  have hb : double.binade = 4503599627370496 := by decide
  have hs : double.signWeight = 9223372036854775808 := by decide
  have hinf : double.infRung = 2047 * 4503599627370496 := by decide
  have hl : double.leastPlace = -1074 := by decide
  rw [Nat.min_eq_left (by omega)]
  obtain ⟨r, hr⟩ : ∃ r, r = e * 4503599627370496 + kept := ⟨_, rfl⟩
  have hrlt : r < 2047 * 4503599627370496 := by omega
  have hneg : (double.word neg r / 9223372036854775808 % 2 == 1) = neg := by
    unfold Format.word
    rw [hs]
    cases neg
    · simp only [Bool.false_eq_true, if_false]
      rw [Nat.div_eq_of_lt (by omega)]
      rfl
    · simp only [if_true]
      rw [show (9223372036854775808 + r) / 9223372036854775808 = 1 by omega]
      rfl
  have hmod : double.word neg r % 9223372036854775808 = r := by
    unfold Format.word
    rw [hs]
    cases neg
    · simp only [Bool.false_eq_true, if_false]; omega
    · simp only [if_true]; omega
  rw [← hr]
  unfold Format.read
  rw [hs, hb, hinf, hl]
  simp only [hneg, hmod]
  rw [if_neg (by omega), if_pos hrlt]
  by_cases hk : kept = 9007199254740992
  · have d1 : r / 4503599627370496 = e + 2 := by omega
    have d2 : r % 4503599627370496 = 0 := by omega
    refine ⟨_, _, rfl, ?_, ?_, ?_, ?_, ?_, ?_⟩
    · omega
    · rw [d1, d2, show ((-1074 : Int) + ((e + 2 - 1 : Nat) : Int) + 1074).toNat = e + 1 by omega, hk, Nat.pow_succ]
      omega
    · omega
    · omega
    · rw [d1]; omega
    · rw [d1]; omega
  · have d1 : r / 4503599627370496 = e + 1 := by omega
    have d2 : r % 4503599627370496 = kept - 4503599627370496 := by omega
    refine ⟨_, _, rfl, ?_, ?_, ?_, ?_, ?_, ?_⟩
    · omega
    · rw [d1, d2, show ((-1074 : Int) + ((e + 1 - 1 : Nat) : Int) + 1074).toNat = e by omega, show 4503599627370496 + (kept - 4503599627370496) = kept by omega]
    · omega
    · omega
    · rw [d1]; omega
    · rw [d1]; omega

/-- Rounding to the nearest whole number of gaps. -/
theorem cut_near (neg : Bool) (n drop : Nat) (hd : drop ≤ n.log2 + 2) :
    2 * (Toward.even.cut neg n drop * 2 ^ drop) ≤ 2 * n + 2 ^ drop ∧ 2 * n ≤ 2 * (Toward.even.cut neg n drop * 2 ^ drop) + 2 ^ drop := by
  unfold Toward.cut
  simp only
  rw [Nat.min_eq_left hd, Nat.shiftLeft_eq, Nat.one_mul]
  have hp : 0 < 2 ^ drop := Nat.two_pow_pos _
  have hdm := Nat.div_add_mod n (2 ^ drop)
  have hlt := Nat.mod_lt n hp
  generalize 2 ^ drop = g at *
  generalize n / g = q at *
  generalize n % g = r at *
  generalize hm : (decide (g < 2 * r) || (g == 2 * r && q % 2 == 1)) = more
  cases more
  · simp only [Bool.toNat_false, Nat.add_zero]
    simp only [Bool.or_eq_false_iff, decide_eq_false_iff_not] at hm
    rw [Nat.mul_comm q g]
    omega
  · simp only [Bool.toNat_true]
    have h2 : g ≤ 2 * r := by
      simp only [Bool.or_eq_true, decide_eq_true_eq, Bool.and_eq_true, beq_iff_eq] at hm
      omega
    rw [Nat.add_mul, Nat.one_mul, Nat.mul_comm q g]
    omega

theorem cut_exact (neg : Bool) (k drop : Nat) (hd : drop ≤ (k * 2 ^ drop).log2 + 2) : Toward.even.cut neg (k * 2 ^ drop) drop = k := by
  unfold Toward.cut
  simp only
  rw [Nat.min_eq_left hd, Nat.shiftLeft_eq, Nat.one_mul]
  have hp : 0 < 2 ^ drop := Nat.two_pow_pos _
  rw [Nat.mul_div_cancel _ hp, Nat.mul_mod_left]
  have h1 : (decide (2 ^ drop < 2 * 0) || (2 ^ drop == 2 * 0 && k % 2 == 1)) = false := by
    have : 2 ^ drop ≠ 0 := by omega
    simp
  rw [h1]
  simp

theorem log2_bounds {n : Nat} (h : 0 < n) : 2 ^ n.log2 ≤ n ∧ n < 2 ^ (n.log2 + 1) :=
  ⟨Nat.log2_self_le (by omega), Nat.lt_log2_self⟩

theorem two52 : (2 : Nat) ^ 52 = 4503599627370496 := by decide
theorem two53 : (2 : Nat) ^ 53 = 9007199254740992 := by decide

/-- The nearest word, and what it stands for: 'r * 2 ^ place', r near mag. -/
theorem nearest_gen (neg : Bool) (mag : Nat) (place : Int) (hm : 0 < mag) (hp : -1074 ≤ place) (hL : -1074 ≤ place + mag.log2 - 52) (hU : place + mag.log2 ≤ 960) :
    ∃ m i r, double.read (double.nearest neg mag place) = .number neg m i ∧ -1074 ≤ i ∧ m * 2 ^ (i + 1074).toNat = r * 2 ^ (place + 1074).toNat ∧
      4503599627370496 ≤ m ∧ m < 9007199254740992 ∧ i ≤ place + mag.log2 - 51 ∧ place + mag.log2 - 52 ≤ i ∧
      (mag.log2 ≤ 52 → r = mag) ∧
      (52 < mag.log2 → 2 * r ≤ 2 * mag + 2 ^ (mag.log2 - 52) ∧ 2 * mag ≤ 2 * r + 2 ^ (mag.log2 - 52)) ∧
      (52 < mag.log2 → ∀ k, mag = k * 2 ^ (mag.log2 - 52) → r = mag) ∧ (52 < mag.log2 → ∃ k, r = k * 2 ^ (mag.log2 - 52)) := by
  obtain ⟨b1, b2⟩ := log2_bounds hm
  obtain ⟨L, hLe⟩ : ∃ L, mag.log2 = L := ⟨_, rfl⟩
  rw [hLe] at b1 b2 hL hU ⊢
  have hl : double.leastPlace = -1074 := by decide
  have hb : double.binade = 4503599627370496 := by decide
  have hinf : double.infRung = 2047 * 4503599627370496 := by decide
  unfold Format.nearest
  rw [if_neg (by omega)]
  simp only [hLe, hl, hb, hinf]
  rw [show ((double.fractionBits : Nat) : Int) = 52 from rfl, Int.max_eq_left hL]
  obtain ⟨e, he⟩ : ∃ e : Nat, (place + (L : Int) - 52 - -1074).toNat = e := ⟨_, rfl⟩
  have he' : (e : Int) = place + L - 52 + 1074 := by omega
  rw [he]
  by_cases hs : L ≤ 52
  · have e1 : (place - (place + (L : Int) - 52)).toNat = 52 - L := by omega
    have e2 : (place + (L : Int) - 52 - place).toNat = 0 := by omega
    rw [e1, e2, Nat.shiftLeft_eq]
    have hk : Toward.even.cut neg (mag * 2 ^ (52 - L)) 0 = mag * 2 ^ (52 - L) := by
      have := cut_exact neg (mag * 2 ^ (52 - L)) 0 (by omega)
      simpa using this
    rw [hk]
    have hpw : 2 ^ L * 2 ^ (52 - L) = 2 ^ 52 := by rw [← Nat.pow_add]; congr 1; omega
    have hpos : 0 < 2 ^ (52 - L) := Nat.two_pow_pos _
    have k1 : 4503599627370496 ≤ mag * 2 ^ (52 - L) := by
      rw [← two52, ← hpw]; exact Nat.mul_le_mul_right _ b1
    have k2 : mag * 2 ^ (52 - L) ≤ 9007199254740992 := by
      have : mag * 2 ^ (52 - L) ≤ 2 ^ (L + 1) * 2 ^ (52 - L) := Nat.mul_le_mul_right _ (Nat.le_of_lt b2)
      rw [Nat.pow_succ, Nat.mul_comm (2 ^ L) 2, Nat.mul_assoc, hpw, two52] at this
      omega
    obtain ⟨m, i, h1, h2, h3, h4, h5, h6, h7⟩ := read_word neg e (mag * 2 ^ (52 - L)) (by omega) k1 k2
    refine ⟨m, i, mag, h1, h2, ?_, h4, h5, by omega, by omega, fun _ => rfl, fun h => by omega, fun h => by omega, fun h => by omega⟩
    rw [h3, Nat.mul_assoc, ← Nat.pow_add]
    congr 2
    omega
  · have e1 : (place - (place + (L : Int) - 52)).toNat = 0 := by omega
    have e2 : (place + (L : Int) - 52 - place).toNat = L - 52 := by omega
    rw [e1, e2, Nat.shiftLeft_eq, Nat.pow_zero, Nat.mul_one]
    have hd : L - 52 ≤ mag.log2 + 2 := by omega
    obtain ⟨c1, c2⟩ := cut_near neg mag (L - 52) hd
    obtain ⟨kept, hkept⟩ : ∃ kept, Toward.even.cut neg mag (L - 52) = kept := ⟨_, rfl⟩
    rw [hkept] at c1 c2 ⊢
    have hpos : 0 < 2 ^ (L - 52) := Nat.two_pow_pos _
    have hpw : 2 ^ 52 * 2 ^ (L - 52) = 2 ^ L := by rw [← Nat.pow_add]; congr 1; omega
    have k1 : 4503599627370496 ≤ kept := by
      rcases Nat.lt_or_ge kept 4503599627370496 with h | h
      · exfalso
        have h2 : (kept + 1) * 2 ^ (L - 52) ≤ 4503599627370496 * 2 ^ (L - 52) := Nat.mul_le_mul_right _ h
        rw [Nat.add_mul, Nat.one_mul, ← two52, hpw] at h2
        omega
      · exact h
    have k2 : kept ≤ 9007199254740992 := by
      rcases Nat.lt_or_ge 9007199254740992 kept with h | h
      · exfalso
        have h2 : (9007199254740992 + 1) * 2 ^ (L - 52) ≤ kept * 2 ^ (L - 52) := Nat.mul_le_mul_right _ h
        have h3 : 9007199254740992 * 2 ^ (L - 52) = 2 ^ (L + 1) := by
          rw [← two53, ← Nat.pow_add]; congr 1; omega
        rw [Nat.add_mul, Nat.one_mul, h3] at h2
        omega
      · exact h
    obtain ⟨m, i, h1, h2, h3, h4, h5, h6, h7⟩ := read_word neg e kept (by omega) k1 k2
    refine ⟨m, i, kept * 2 ^ (L - 52), h1, h2, ?_, h4, h5, by omega, by omega, fun h => by omega, fun _ => ⟨c1, c2⟩, fun _ k hk => ?_, fun _ => ⟨kept, rfl⟩⟩
    · rw [h3, Nat.mul_assoc, ← Nat.pow_add]
      congr 2
      omega
    · rw [← hkept]
      have := cut_exact neg k (L - 52) (by rw [← hk]; exact hd)
      rw [← hk] at this
      rw [this, ← hk]

/-- A number with at most 53 digits is written as it is. -/
theorem nearest_exact (neg : Bool) (z t : Nat) (place : Int) (hz : 0 < z) (hz53 : z < 9007199254740992) (hp : -1074 ≤ place) (hL : -1074 ≤ place + (z * 2 ^ t).log2 - 52) (hU : place + (z * 2 ^ t).log2 ≤ 960) :
    ∃ m i, double.read (double.nearest neg (z * 2 ^ t) place) = .number neg m i ∧ -1074 ≤ i ∧ m * 2 ^ (i + 1074).toNat = (z * 2 ^ t) * 2 ^ (place + 1074).toNat ∧ 4503599627370496 ≤ m ∧ m < 9007199254740992 := by
  have hpos : 0 < z * 2 ^ t := Nat.mul_pos hz (Nat.two_pow_pos _)
  obtain ⟨m, i, r, h1, h2, h3, h4, h5, _, _, h6, _, h7, _⟩ := nearest_gen neg (z * 2 ^ t) place hpos hp hL hU
  refine ⟨m, i, h1, h2, ?_, h4, h5⟩
  rw [h3]
  congr 1
  rcases Nat.lt_or_ge 52 (z * 2 ^ t).log2 with h | h
  · have hb := log2_bounds hpos
    have ht : (z * 2 ^ t).log2 - 52 ≤ t := by
      rcases Nat.lt_or_ge ((z * 2 ^ t).log2) (53 + t) with h8 | h8
      · omega
      · exfalso
        have h9 : 2 ^ (53 + t) ≤ 2 ^ (z * 2 ^ t).log2 := Nat.pow_le_pow_right (by omega) h8
        have h10 : z * 2 ^ t < 2 ^ 53 * 2 ^ t := Nat.mul_lt_mul_of_pos_right (by rw [two53]; exact hz53) (Nat.two_pow_pos _)
        rw [← Nat.pow_add] at h10
        omega
    refine h7 h (z * 2 ^ (t - ((z * 2 ^ t).log2 - 52))) ?_
    rw [Nat.mul_assoc, ← Nat.pow_add]
    congr 2
    omega
  · exact h6 h

theorem log2_eq {n k : Nat} (h1 : 2 ^ k ≤ n) (h2 : n < 2 ^ (k + 1)) : n.log2 = k := by
  have hn : n ≠ 0 := by have := Nat.two_pow_pos k; omega
  have a1 : k ≤ n.log2 := (Nat.le_log2 hn).2 h1
  have a2 : n.log2 < k + 1 := (Nat.log2_lt hn).2 h2
  omega

theorem two54 : (2 : Nat) ^ 54 = 18014398509481984 := by decide
theorem two55 : (2 : Nat) ^ 55 = 36028797018963968 := by decide
theorem two56 : (2 : Nat) ^ 56 = 72057594037927936 := by decide

/-- What a number with its place comes to, at the scale. -/
def sc (m : Nat) (i : Int) : Nat := m * two (i + 1074).toNat

theorem sc_eq {m m' : Nat} {i i' : Int} (h : m * 2 ^ (i + 1074).toNat = m' * 2 ^ (i' + 1074).toNat) : sc m i = sc m' i' := h

/-- A whole number up to 2 ^ 53, as a word. -/
theorem whole_read (neg : Bool) (a : Nat) (h0 : 0 < a) (h1 : a ≤ 9007199254740992) :
    ∃ m i, double.read (double.nearest neg a 0) = .number neg m i ∧ -52 ≤ i ∧ i ≤ 1 ∧ sc m i = sc a 0 ∧ 4503599627370496 ≤ m ∧ m < 9007199254740992 ∧
      (i = 1 → m = 4503599627370496) ∧ (a ≤ 2251799813685248 → i ≤ -1) ∧ m * two (i + 52).toNat = a * two 52 := by
  have hlog : a.log2 < 54 := (Nat.log2_lt (n := a) (k := 54) (by omega)).2 (by rw [two54]; omega)
  obtain ⟨m, i, r, r1, r2, r3, r4, r5, r6, r7, r8, _, r9, _⟩ := nearest_gen neg a 0 h0 (by omega) (by omega) (by omega)
  have hra : r = a := by
    rcases Nat.lt_or_ge 52 a.log2 with h | h
    · have hl : a.log2 = 53 := by omega
      have hb := (log2_bounds h0).1
      rw [hl, two53] at hb
      have ha : a = 9007199254740992 := by omega
      refine r9 h 4503599627370496 ?_
      rw [hl, ha]
    · exact r8 h
  subst hra
  have r3' : sc m i = sc r 0 := sc_eq r3
  clear r3
  have hi52 : -52 ≤ i := by omega
  have key : m * two (i + 52).toNat = r * two 52 := by
    have hs : (i + 1074).toNat = (i + 52).toNat + 1022 := by omega
    have h2 : ((0 : Int) + 1074).toNat = 52 + 1022 := rfl
    unfold sc at r3'
    rw [hs, h2, two_add, two_add, ← Nat.mul_assoc, ← Nat.mul_assoc] at r3'
    exact Nat.eq_of_mul_eq_mul_right (two_pos 1022) r3'
  have key' : m * two (i + 52).toNat = r * 4503599627370496 := key
  have up : ∀ k : Nat, k ≤ (i + 52).toNat → 4503599627370496 * two k ≤ r * 4503599627370496 := fun k hk => by
    rw [← key']
    exact Nat.mul_le_mul r4 (two_mono hk)
  have hi1 : i ≤ 1 := by
    by_cases h : 1 < i
    · have := up 54 (by omega)
      rw [show two 54 = 18014398509481984 from two54] at this
      omega
    · omega
  refine ⟨m, i, r1, hi52, hi1, r3', r4, r5, fun h => ?_, fun h => ?_, key⟩
  · subst h
    rw [show two ((1 : Int) + 52).toNat = 9007199254740992 from two53] at key'
    omega
  · by_cases h' : -1 < i
    · have := up 52 (by omega)
      rw [show two 52 = 4503599627370496 from two52] at this
      omega
    · omega

theorem readC : double.read 4696837146684686336 = .number false 8589934592000000 (-33) := by decide

/-- The quotient, before it is rounded. -/
theorem quo_exact (neg : Bool) (m : Nat) (i : Int) (m0 : 4503599627370496 ≤ m) (m1 : m < 9007199254740992) :
    ∃ Q ρ st, 8589934592000000 * Q + ρ = m * 18014398509481984 ∧ ρ < 8589934592000000 ∧ ((ρ = 0 ∧ st = 0) ∨ (0 < ρ ∧ st = 1)) ∧
      (Datum.number neg m i).quotient 54 (.number false 8589934592000000 (-33)) = some (.number neg (2 * Q + st) (i - 22)) := by
  have lm : m.log2 = 52 := log2_eq (by rw [two52]; exact m0) (by rw [two53]; exact m1)
  have ln : (8589934592000000 : Nat).log2 = 52 := log2_eq (by rw [two52]; decide) (by rw [two53]; decide)
  obtain ⟨Q, hQ⟩ : ∃ Q, m * 18014398509481984 / 8589934592000000 = Q := ⟨_, rfl⟩
  obtain ⟨ρ, hρ⟩ : ∃ ρ, m * 18014398509481984 % 8589934592000000 = ρ := ⟨_, rfl⟩
  refine ⟨Q, ρ, (ρ != 0).toNat, by rw [← hQ, ← hρ]; exact Nat.div_add_mod _ _, by rw [← hρ]; exact Nat.mod_lt _ (by decide), ?_, ?_⟩
  · by_cases h : ρ = 0
    · left; subst h; exact ⟨rfl, rfl⟩
    · right
      have : (ρ != 0) = true := by simpa using h
      rw [this]
      exact ⟨by omega, rfl⟩
  · unfold Datum.quotient
    simp only
    rw [if_neg (by decide)]
    simp only [lm, ln]
    rw [show 54 + 52 - 52 = 54 from rfl, Nat.shiftLeft_eq, two54, hQ, hρ]
    simp only [Bool.xor_false]
    congr 2
    omega

theorem near_gen (n D Q ρ st r g : Nat) (hdm : n * Q + ρ = D) (hρ : ρ < n) (hst : (ρ = 0 ∧ st = 0) ∨ (0 < ρ ∧ st = 1)) (h1 : r ≤ 2 * Q + g) (h2 : st = 0 → 2 * Q ≤ r + g) (h3 : st = 1 → 2 * Q + 2 ≤ r + g) :
    n * r ≤ 2 * D + n * g ∧ 2 * D ≤ n * r + n * g := by
  have q1 := Nat.mul_le_mul_left n h1
  rw [Nat.mul_add] at q1
  have e : n * (2 * Q) = 2 * (n * Q) := by rw [Nat.mul_left_comm]
  rw [e] at q1
  refine ⟨by omega, ?_⟩
  rcases hst with ⟨a, b⟩ | ⟨a, b⟩
  · have q2 := Nat.mul_le_mul_left n (h2 b)
    rw [e, Nat.mul_add] at q2
    omega
  · have q2 := Nat.mul_le_mul_left n (h3 b)
    rw [Nat.mul_add, Nat.mul_add, e] at q2
    omega

end Go.Proofs.Qxb6616639a
