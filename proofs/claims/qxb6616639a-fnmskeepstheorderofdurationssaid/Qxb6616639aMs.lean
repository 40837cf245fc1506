/-
  WHAT 'ms' GIVES, AS A NUMBER AT THE SCALE; SUMS AND DIFFERENCES OF WORDS.
-/
import Derived.Test.Qxb6616639aQuo
namespace Go.Proofs.Qxb6616639a
open Ieee

/-- The scale's unit: 2 ^ -21. -/
def T : Nat := two 1053

theorem T_eq : two 1053 = T := rfl
theorem T_pos : 0 < T := two_pos _
theorem one_T : two 1074 = 2097152 * T := by
  have h : two 21 = 2097152 := by decide
  rw [show (1074 : Nat) = 21 + 1053 from rfl, two_add, h, T_eq]
theorem two_T : two 1054 = 2 * T := by
  rw [show (1054 : Nat) = 1053 + 1 from rfl, two_succ, T_eq]
theorem sc_whole (a : Nat) : sc a 0 = 2097152 * (a * T) := by
  have h : sc a 0 = a * two 1074 := rfl
  rw [h, one_T, Nat.mul_left_comm]

def sgn (s : Bool) (v : Nat) : Int := if s then -(v : Int) else v

theorem signed_sgn (s : Bool) (m k : Nat) : signed s m k = sgn s (m * two k) := by
  unfold signed sgn
  rw [Nat.shiftLeft_eq]
  rfl

theorem val_read {x : Nat} {s : Bool} {m : Nat} {i : Int} (hr : double.read x = .number s m i) (hi : -1074 ≤ i) : Val x (sgn s (sc m i)) :=
  ⟨s, m, i, hr, hi, (signed_sgn s m _).symm⟩

theorem sgn_zero (s : Bool) : sgn s 0 = 0 := by cases s <;> rfl

theorem sum_num (s t : Bool) (m n : Nat) (i j : Int) (hi : -1074 ≤ i) (hj : -1074 ≤ j) :
    ∃ neg mag, Datum.sum (.number s m i) (.number t n j) = some (.number neg mag (min i j)) ∧ sgn neg (sc mag (min i j)) = sgn s (sc m i) + sgn t (sc n j) := by
  refine ⟨_, _, rfl, ?_⟩
  obtain ⟨d, hd⟩ : ∃ d : Nat, (min i j + 1074).toNat = d := ⟨_, rfl⟩
  have e1 : (i + 1074).toNat = (i - min i j).toNat + d := by omega
  have e2 : (j + 1074).toNat = (j - min i j).toNat + d := by omega
  have f1 : sgn s (sc m i) = signed s m (i - min i j).toNat * (2 ^ d : Nat) := by
    rw [← signed_add, ← e1, signed_sgn]
    rfl
  have f2 : sgn t (sc n j) = signed t n (j - min i j).toNat * (2 ^ d : Nat) := by
    rw [← signed_add, ← e2, signed_sgn]
    rfl
  rw [f1, f2, ← Int.add_mul]
  generalize signed s m (i - min i j).toNat + signed t n (j - min i j).toNat = total
  have f3 : sc total.natAbs (min i j) = total.natAbs * 2 ^ d := by
    unfold sc
    rw [hd]
    rfl
  rw [f3]
  generalize (2 ^ d : Nat) = D
  by_cases h0 : total = 0
  · subst h0
    rw [if_pos rfl]
    simp [sgn]
  · rw [if_neg h0]
    by_cases h1 : total < 0
    · rw [decide_eq_true h1]
      unfold sgn
      rw [if_pos rfl, Int.natCast_mul, ← Int.neg_mul]
      congr 1
      omega
    · rw [decide_eq_false h1]
      unfold sgn
      rw [if_neg (by decide), Int.natCast_mul]
      congr 1
      omega

theorem nearest_zero (neg : Bool) (p : Int) : double.read (double.nearest neg 0 p) = .number neg 0 (-1074) := by
  unfold Format.nearest
  rw [if_pos rfl]
  cases neg <;> decide

/-- Rounding adds at most one part in 2 ^ 53. -/
theorem round_bound (neg : Bool) (mag : Nat) (place : Int) (hm : 0 < mag) (hp : -1074 ≤ place) (hL : -1074 ≤ place + mag.log2 - 52) (hU : sc mag place < two 1074) :
    ∃ v, Val (double.nearest neg mag place) (sgn neg v) ∧ 9007199254740992 * v ≤ 9007199254740993 * sc mag place := by
  have hb := log2_bounds hm
  have hU' : place + mag.log2 ≤ 960 := by
    by_cases h : place + mag.log2 ≤ 960
    · exact h
    · exfalso
      have h1 : two mag.log2 * two (place + 1074).toNat ≤ sc mag place := Nat.mul_le_mul_right _ hb.1
      rw [← two_add] at h1
      have h2 : two 1074 ≤ two (mag.log2 + (place + 1074).toNat) := two_mono (by omega)
      omega
  obtain ⟨m, i, r, h1, h2, h3, _, _, _, _, h6, h7, _, _⟩ := nearest_gen neg mag place hm hp hL hU'
  have h3' : sc m i = r * two (place + 1074).toNat := h3
  clear h3
  refine ⟨_, val_read h1 h2, ?_⟩
  rw [h3']
  have key : 9007199254740992 * r ≤ 9007199254740993 * mag := by
    rcases Nat.lt_or_ge 52 mag.log2 with h | h
    · obtain ⟨c1, _⟩ := h7 h
      have hpw : 2 ^ mag.log2 = 4503599627370496 * 2 ^ (mag.log2 - 52) := by
        rw [← two52, ← Nat.pow_add]
        congr 1
        omega
      have hb1 := hb.1
      rw [hpw] at hb1
      generalize (2 : Nat) ^ (mag.log2 - 52) = g at *
      clear hpw h7 hb hU hL hU'
      omega
    · rw [h6 h]
      omega
  have := Nat.mul_le_mul_right (two (place + 1074).toNat) key
  rw [Nat.mul_assoc, Nat.mul_assoc] at this
  exact this

/-- A whole number below 2 ^ 53, at a place of 0 or less, is written as it is. -/
theorem round_whole (neg : Bool) (mag : Nat) (place : Int) (z : Nat) (hz : z < 9007199254740992) (hp : -1074 ≤ place) (hp0 : place ≤ 0) (he : sc mag place = z * two 1074) :
    Val (double.nearest neg mag place) (sgn neg (z * two 1074)) := by
  have hmag : mag = z * 2 ^ (-place).toNat := by
    have h : sc mag place = mag * two (place + 1074).toNat := rfl
    rw [h, show (1074 : Nat) = (-place).toNat + (place + 1074).toNat by omega, two_add, ← Nat.mul_assoc] at he
    exact Nat.eq_of_mul_eq_mul_right (two_pos _) he
  rcases Nat.eq_zero_or_pos z with h0 | h0
  · subst h0
    rw [Nat.zero_mul] at hmag ⊢
    subst hmag
    have := val_read (nearest_zero neg place) (by omega)
    unfold sc at this
    rw [Nat.zero_mul] at this
    exact this
  · have hpos : 0 < z * 2 ^ (-place).toNat := Nat.mul_pos h0 (Nat.two_pow_pos _)
    have l1 : (-place).toNat ≤ (z * 2 ^ (-place).toNat).log2 := (Nat.le_log2 (by omega)).2 (Nat.le_mul_of_pos_left _ h0)
    have l2 : (z * 2 ^ (-place).toNat).log2 < 53 + (-place).toNat := by
      refine (Nat.log2_lt (by omega)).2 ?_
      rw [Nat.pow_add, two53]
      exact Nat.mul_lt_mul_of_pos_right hz (Nat.two_pow_pos _)
    obtain ⟨m, i, r1, r2, r3, _, _⟩ := nearest_exact neg z (-place).toNat place h0 hz hp (by omega) (by omega)
    have r3' : sc m i = sc mag place := by
      rw [hmag]
      exact r3
    rw [← hmag] at r1
    rw [← he, ← r3']
    exact val_read r1 r2

/-- What a whole number up to 2 ^ 53 is as a word. -/
theorem word_val (a : Int) (h : a.natAbs ≤ 9007199254740992) :
    ∃ s m i, double.read (floatOfInt .f64 a) = .number s m i ∧ -1074 ≤ i ∧ sgn s (sc m i) = 2097152 * (a * (T : Int)) ∧
      ((a = 0 ∧ m = 0 ∧ i = -1074) ∨ (a ≠ 0 ∧ -100 ≤ i ∧ 4503599627370496 ≤ m)) := by
  by_cases h0 : a = 0
  · subst h0
    refine ⟨false, 0, -1074, by decide, by omega, ?_, .inl ⟨rfl, rfl, rfl⟩⟩
    unfold sc sgn
    rw [Nat.zero_mul, Int.zero_mul]
    rfl
  · obtain ⟨m, i, r1, r2, _, r4, r5, _⟩ := whole_read (decide (a < 0)) a.natAbs (by omega) h
    refine ⟨_, m, i, r1, by omega, ?_, .inr ⟨h0, by omega, r5⟩⟩
    rw [r4, sc_whole]
    unfold sgn
    by_cases hn : a < 0
    · rw [decide_eq_true hn, if_pos rfl]
      have e2 : a * (T : Int) = -((a.natAbs * T : Nat) : Int) := by
        rw [Int.natCast_mul, ← Int.neg_mul]
        congr 1
        omega
      rw [e2]
      omega
    · rw [decide_eq_false hn, if_neg (by decide)]
      have e2 : a * (T : Int) = ((a.natAbs * T : Nat) : Int) := by
        rw [Int.natCast_mul]
        congr 1
        omega
      rw [e2]
      omega

/-- THE CHIEF FACT: 'a / 1e6' as a word. -/
theorem ms_val (a : Int) (h : a.natAbs ≤ 9007199254740992) :
    ∃ W s m i v, double.div (floatOfInt .f64 a) 4696837146684686336 = some W ∧ double.read W = .number s m i ∧ -1074 ≤ i ∧ sgn s (sc m i) = v ∧
      ((a = 0 ∧ m = 0 ∧ i = -1074) ∨ (a ≠ 0 ∧ -100 ≤ i ∧ 4503599627370496 ≤ m)) ∧
      1000000 * v ≤ 2097152 * (a * (T : Int)) + 2000000 * (T : Int) ∧ 2097152 * (a * (T : Int)) ≤ 1000000 * v + 2000000 * (T : Int) ∧
      (a.natAbs ≤ 2251799813685248 → 1000000 * v ≤ 2097152 * (a * (T : Int)) + 1000000 * (T : Int) ∧ 2097152 * (a * (T : Int)) ≤ 1000000 * v + 1000000 * (T : Int)) ∧
      (∀ q : Int, a = 1000000 * q → v = 2097152 * (q * (T : Int))) := by
  by_cases h0 : a = 0
  · subst h0
    refine ⟨0, false, 0, -1074, 0, by decide, by decide, by omega, ?_, .inl ⟨rfl, rfl, rfl⟩, by omega, by omega, fun _ => by omega, fun q hq => ?_⟩
    · unfold sc
      rw [Nat.zero_mul]
      rfl
    · obtain rfl : q = 0 := by omega
      omega
  · obtain ⟨W, m, i, r1, r2, r3, r4, _, r5, r6, r7, r8⟩ := quo_read (decide (a < 0)) a.natAbs (by omega) h
    refine ⟨W, _, m, i, _, r1, r2, by omega, rfl, .inr ⟨h0, r3, r4⟩, ?_⟩
    rw [sc_whole, two_T] at r5 r6
    rw [sc_whole, T_eq] at r7
    generalize hV : sc m i = V at *
    unfold sgn
    by_cases hn : a < 0
    · rw [decide_eq_true hn, if_pos rfl]
      obtain ⟨n, hN⟩ : ∃ n, a.natAbs = n := ⟨_, rfl⟩
      have e : a = -(n : Int) := by omega
      rw [hN] at r5 r6 r7 r8 ⊢
      have e2 : a * (T : Int) = -((n * T : Nat) : Int) := by rw [e, Int.neg_mul, Int.natCast_mul]
      rw [e2]
      refine ⟨by omega, by omega, fun hs => ?_, fun q hq => ?_⟩
      · have := r7 hs
        omega
      · have r := r8 q.natAbs (by omega)
        rw [sc_whole] at r
        have e3 : q * (T : Int) = -((q.natAbs * T : Nat) : Int) := by
          rw [Int.natCast_mul, ← Int.neg_mul]
          congr 1
          omega
        rw [e3]
        omega
    · rw [decide_eq_false hn, if_neg (by decide)]
      obtain ⟨n, hN⟩ : ∃ n, a.natAbs = n := ⟨_, rfl⟩
      have e : a = (n : Int) := by omega
      rw [hN] at r5 r6 r7 r8 ⊢
      have e2 : a * (T : Int) = ((n * T : Nat) : Int) := by rw [e, Int.natCast_mul]
      rw [e2]
      refine ⟨by omega, by omega, fun hs => ?_, fun q hq => ?_⟩
      · have := r7 hs
        omega
      · have r := r8 q.natAbs (by omega)
        rw [sc_whole] at r
        have e3 : q * (T : Int) = ((q.natAbs * T : Nat) : Int) := by
          rw [Int.natCast_mul]
          congr 1
          omega
        rw [e3]
        omega

end Go.Proofs.Qxb6616639a
