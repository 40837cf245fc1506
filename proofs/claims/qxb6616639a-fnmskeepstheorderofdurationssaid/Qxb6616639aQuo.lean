/-
  THE QUOTIENT BY 1e6: its distance from the true one; whole quotients are exact.
-/
import Derived.Test.Qxb6616639aFloat
namespace Go.Proofs.Qxb6616639a
open Ieee

/-- From the rounded quotient to the scale. -/
theorem scale_up (a m r u B g : Nat) (i i' : Int) (m' : Nat) (i0 : -52 ≤ i) (hu : two (i + 1019).toNat = u) (ha : sc a 0 = sc m i) (hv : sc m' i' = r * two (i - 22 + 1074).toNat)
    (n1 : 8589934592000000 * r ≤ 2 * (m * 18014398509481984) + 8589934592000000 * g) (n2 : 2 * (m * 18014398509481984) ≤ 8589934592000000 * r + 8589934592000000 * g) (hB : g * two (i + 1052).toNat ≤ B) :
    1000000 * sc m' i' ≤ sc a 0 + 1000000 * B ∧ sc a 0 ≤ 1000000 * sc m' i' + 1000000 * B := by
  have e33 : two 33 = 8589934592 := by decide
  have e55 : two 55 = 36028797018963968 := two55
  have t1 : 1000000 * sc m' i' = 8589934592000000 * r * u := by
    rw [hv, show (i - 22 + 1074).toNat = (i + 1019).toNat + 33 by omega, two_add, hu, e33, Nat.mul_comm u, ← Nat.mul_assoc r, Nat.mul_comm r, ← Nat.mul_assoc, ← Nat.mul_assoc]
  have t2 : sc a 0 = 2 * (m * 18014398509481984) * u := by
    have d1 : m * 36028797018963968 = 2 * (m * 18014398509481984) := by
      clear n1 n2 hB
      omega
    have d2 : sc m i = m * two (i + 1074).toNat := rfl
    rw [ha, d2, show (i + 1074).toNat = (i + 1019).toNat + 55 by omega, two_add, hu, e55, Nat.mul_comm u, ← Nat.mul_assoc, d1]
  have t3 : 8589934592000000 * g * u ≤ 1000000 * B := by
    have h : 8589934592000000 * g * u = 1000000 * (g * two (i + 1052).toNat) := by
      rw [show (i + 1052).toNat = (i + 1019).toNat + 33 by omega, two_add, hu, e33, Nat.mul_comm u, ← Nat.mul_assoc g, Nat.mul_comm g 8589934592, ← Nat.mul_assoc, ← Nat.mul_assoc]
    rw [h]
    exact Nat.mul_le_mul_left _ hB
  have q1 := Nat.mul_le_mul_right u n1
  have q2 := Nat.mul_le_mul_right u n2
  rw [Nat.add_mul] at q1 q2
  rw [t1, t2]
  constructor
  · exact Nat.le_trans q1 (Nat.add_le_add_left t3 _)
  · exact Nat.le_trans q2 (Nat.add_le_add_left t3 _)

/-- A whole quotient, before it is rounded. -/
theorem whole_quo (m q : Nat) (i : Int) (i0 : -52 ≤ i) (i1 : i ≤ 1) (key : m * two (i + 52).toNat = 1000000 * q * two 52) : m * 18014398509481984 = 8589934592000000 * (q * two (21 - i).toNat) := by
  refine Nat.eq_of_mul_eq_mul_right (two_pos (i + 52).toNat) ?_
  have e73 : two (21 - i).toNat * two (i + 52).toNat = two 73 := by
    rw [← two_add]
    congr 1
    omega
  have e1 : two 52 * 18014398509481984 = 8589934592 * two 73 := by decide
  calc m * 18014398509481984 * two (i + 52).toNat = m * two (i + 52).toNat * 18014398509481984 := Nat.mul_right_comm _ _ _
    _ = 1000000 * q * two 52 * 18014398509481984 := by rw [key]
    _ = 1000000 * q * (two 52 * 18014398509481984) := Nat.mul_assoc _ _ _
    _ = 1000000 * q * (8589934592 * two 73) := by rw [e1]
    _ = 1000000 * (q * 8589934592) * two 73 := by rw [← Nat.mul_assoc, Nat.mul_assoc 1000000 q]
    _ = 1000000 * (8589934592 * q) * two 73 := by rw [Nat.mul_comm q]
    _ = 8589934592000000 * q * two 73 := by rw [← Nat.mul_assoc 1000000 8589934592]
    _ = 8589934592000000 * q * (two (21 - i).toNat * two (i + 52).toNat) := by rw [e73]
    _ = 8589934592000000 * (q * two (21 - i).toNat) * two (i + 52).toNat := by rw [← Nat.mul_assoc, Nat.mul_assoc _ q]

set_option maxHeartbeats 800000 in
/-- 'a / 1e6': the nearest double, its distance from the true quotient, and that whole quotients are exact. -/
theorem quo_read (neg : Bool) (a : Nat) (h0 : 0 < a) (h1 : a ≤ 9007199254740992) :
    ∃ W m i, double.div (double.nearest neg a 0) 4696837146684686336 = some W ∧ double.read W = .number neg m i ∧ -100 ≤ i ∧ 4503599627370496 ≤ m ∧ m < 9007199254740992 ∧
      1000000 * sc m i ≤ sc a 0 + 1000000 * two 1054 ∧ sc a 0 ≤ 1000000 * sc m i + 1000000 * two 1054 ∧
      (a ≤ 2251799813685248 → 1000000 * sc m i ≤ sc a 0 + 1000000 * two 1053 ∧ sc a 0 ≤ 1000000 * sc m i + 1000000 * two 1053) ∧
      (∀ q, a = 1000000 * q → sc m i = sc q 0) := by
  obtain ⟨m, i, r1, i0, i1, r3, m0, m1, hone, hsmall, hkey⟩ := whole_read neg a h0 h1
  obtain ⟨Q, ρ, st, hdm, hρ, hst, hq⟩ := quo_exact neg m i m0 m1
  obtain ⟨X, hX⟩ : ∃ X, 2 * Q + st = X := ⟨_, rfl⟩
  have hdiv : double.div (double.nearest neg a 0) 4696837146684686336 = some (double.nearest neg X (i - 22)) := by
    unfold Format.div
    rw [r1, readC]
    have : (Datum.number neg m i).quotient (double.fractionBits + 2) (.number false 8589934592000000 (-33)) = some (.number neg (2 * Q + st) (i - 22)) := hq
    rw [this, hX]
    rfl
  have x0 : 18014398509481984 ≤ X := by omega
  have x1 : X < 72057594037927936 := by omega
  have hLX : (X.log2 = 54) ∨ (X.log2 = 55 ∧ i ≤ 0) := by
    rcases Nat.lt_or_ge X 36028797018963968 with h | h
    · exact .inl (log2_eq (by rw [two54]; exact x0) (by rw [two55]; exact h))
    · refine .inr ⟨log2_eq (by rw [two55]; exact h) (by rw [two56]; exact x1), ?_⟩
      by_cases h' : 0 < i
      · have := hone (by omega)
        subst this
        omega
      · omega
  clear x0 x1
  obtain ⟨m', i', r, s1, s2, s3, s4, s5, _, s9, _, s6, s7, s8⟩ := nearest_gen neg X (i - 22) (by omega) (by omega) (by rcases hLX with h | h <;> omega) (by rcases hLX with h | h <;> omega)
  have hv : sc m' i' = r * two (i - 22 + 1074).toNat := s3
  clear s3
  have near : ∃ g, (g = 2 ∨ g = 4 ∧ i ≤ 0) ∧ 8589934592000000 * r ≤ 2 * (m * 18014398509481984) + 8589934592000000 * g ∧ 2 * (m * 18014398509481984) ≤ 8589934592000000 * r + 8589934592000000 * g := by
    rcases hLX with hl | ⟨hl, hi0⟩
    · rw [hl] at s6 s8
      obtain ⟨k, hk⟩ := s8 (by omega)
      obtain ⟨c1, c2⟩ := s6 (by omega)
      rw [show (2 : Nat) ^ (54 - 52) = 4 by decide] at hk c1 c2
      refine ⟨2, .inl rfl, near_gen _ _ Q ρ st r 2 hdm hρ hst ?_ ?_ ?_⟩
      · clear hdm hρ; omega
      · clear hdm hρ; omega
      · clear hdm hρ; omega
    · rw [hl] at s6 s8
      obtain ⟨k, hk⟩ := s8 (by omega)
      obtain ⟨c1, c2⟩ := s6 (by omega)
      rw [show (2 : Nat) ^ (55 - 52) = 8 by decide] at hk c1 c2
      refine ⟨4, .inr ⟨rfl, hi0⟩, near_gen _ _ Q ρ st r 4 hdm hρ hst ?_ ?_ ?_⟩
      · clear hdm hρ; omega
      · clear hdm hρ; omega
      · clear hdm hρ; omega
  obtain ⟨g, hg, n1, n2⟩ := near
  have bound : ∀ e : Nat, (g = 2 → (i + 1052).toNat + 1 ≤ e) → (g = 4 → (i + 1052).toNat + 2 ≤ e) → g * two (i + 1052).toNat ≤ two e := fun e h2 h4 => by
    rcases hg with rfl | ⟨rfl, _⟩
    · rw [← two_succ]; exact two_mono (h2 rfl)
    · have : 4 * two (i + 1052).toNat = two ((i + 1052).toNat + 2) := by rw [two_succ, two_succ]; omega
      rw [this]; exact two_mono (h4 rfl)
  have big := fun (B : Nat) (hB : g * two (i + 1052).toNat ≤ B) => scale_up a m r _ B g i i' m' i0 rfl r3.symm hv n1 n2 hB
  have B1 := big (two 1054) (bound 1054 (fun h => by omega) (fun h => by rcases hg with h' | ⟨_, h'⟩ <;> omega))
  refine ⟨_, m', i', hdiv, s1, by clear n1 n2 hdm; rcases hLX with h | h <;> omega, s4, s5, B1.1, B1.2, fun hsm => ?_, fun q hq' => ?_⟩
  · have hi := hsmall hsm
    exact big (two 1053) (bound 1053 (fun h => by omega) (fun h => by omega))
  · rw [hq'] at hkey
    have hD := whole_quo m q i i0 i1 hkey
    have hQ' : Q = q * two (21 - i).toNat ∧ ρ = 0 := by
      rw [hD] at hdm
      generalize q * two (21 - i).toNat = Z at hdm
      clear n1 n2 hD
      omega
    have hst0 : st = 0 := by rcases hst with h | h <;> omega
    have hXe : X = q * two (22 - i).toNat := by
      rw [← hX, hst0, hQ'.1, show (22 - i).toNat = (21 - i).toNat + 1 by omega, two_succ, Nat.mul_left_comm, Nat.add_zero]
    have hrX : r = X := by
      have hx3 : ∀ d : Nat, d ≤ 3 → ∃ k, X = k * two d := fun d hd => by
        refine ⟨q * two ((22 - i).toNat - d), ?_⟩
        rw [hXe, Nat.mul_assoc, ← two_add]
        congr 2
        omega
      rcases hLX with hl | ⟨hl, _⟩
      · obtain ⟨k, hk⟩ := hx3 2 (by omega)
        exact s7 (by omega) k (by rw [hl]; exact hk)
      · obtain ⟨k, hk⟩ := hx3 3 (by omega)
        exact s7 (by omega) k (by rw [hl]; exact hk)
    rw [hv, hrX, hXe, Nat.mul_assoc, ← two_add]
    unfold sc
    congr 2
    omega

end Go.Proofs.Qxb6616639a
