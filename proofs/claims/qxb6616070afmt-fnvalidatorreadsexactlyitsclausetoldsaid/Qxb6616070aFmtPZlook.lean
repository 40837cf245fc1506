/-
  THE LAWS' OWN READERS OF THE STREAM, MORE: zzLookahead, zzIsLabel.
-/
import Derived.Test.Qxb6616070aFmtPLaw
import Derived.Test.Qxb6616070aFmtPName
namespace Go.Proofs.Qxb6616070aFmt
open Go.RowKit

set_option maxRecDepth 100000 in
set_option maxHeartbeats 1600000 in
theorem zzLook_c (w : World) (kb ko kc xb xo xc n : Nat) (K : Nat → Int) (T : Nat → ByteArray) (P E : Nat → Int) (hn : 0 < n) (hn1 : n ≤ 1048576) (hk : NumsIn .u8 w kb ko n K) (hx : StrsIn w xb xo n T)
    (j : Nat) (hj : j ≤ 1048576) :
    Calls Tryf.prog 40 #[.slice (some ⟨kb, ko, none⟩) n kc, .slice (some ⟨xb, xo, none⟩) n xc, .int .i64 j] w fun e w' => e = .returned (.bool (isLook (tokAt (mkToks n K T P E) j) (tokAt (mkToks n K T P E) (j + 1)))) ∧ w' = w := by
  rw [tokAt_mk hn, tokAt_mk hn]
  have ha := atNat_lt (n := n) (j := j) hn
  have hb := atNat_lt (n := n) (j := j + 1) hn
  have z1 := fun w => zzAt_c w n j (by omega) hn hn1
  have z2 := fun w => zzAt_c w n ((j : Int) + 1) (by omega) hn hn1
  rw [Int.toNat_natCast] at z1
  rw [show ((j : Int) + 1).toNat = j + 1 by omega] at z2
  generalize atNat n j = a at *
  generalize atNat n (j + 1) = b at *
  have k0 := hk _ ha
  have k1 := hx _ ha
  have k2 := hk _ hb
  have k3 := hx _ hb
  have Z1 : Hid (∀ w, Calls Tryf.prog 30 #[.int .i64 n, .int .i64 j] w fun e w' => e = .returned (.int .i64 a) ∧ w' = w) := z1
  have Z2 : Hid (∀ w, Calls Tryf.prog 30 #[.int .i64 n, .int .i64 ((j : Int) + 1)] w fun e w' => e = .returned (.int .i64 b) ∧ w' = w) := z2
  clear hk hx z1 z2
  by_cases cb : K b = 1
  · have d1 : (K b != 1) = false := by simpa using cb
    have d2 : (K b == 1) = true := by simpa using cb
    go_enter Tryf.func40, Tryf.ntmps40
    go_wp2_with fail
    refine (Z1.out _).mono ?_
    rintro e w1 ⟨rfl, rfl⟩
    go_wp2_with fail
    refine (Z2.out _).mono ?_
    rintro e w1 ⟨rfl, rfl⟩
    clear Z1 Z2
    go_wp2_with fail
    all_goals go_ret
    all_goals first
      | (exfalso; simp_all; done)
      | exact ⟨by simp [isLook, isWd, *], rfl⟩
  · have d1 : (K b != 1) = true := by simpa using cb
    have d2 : (K b == 1) = false := by simpa using cb
    go_enter Tryf.func40, Tryf.ntmps40
    go_wp2_with fail
    refine (Z1.out _).mono ?_
    rintro e w1 ⟨rfl, rfl⟩
    go_wp2_with fail
    refine (Z2.out _).mono ?_
    rintro e w1 ⟨rfl, rfl⟩
    clear Z1 Z2
    go_wp2_with fail
    all_goals go_ret
    all_goals first
      | (exfalso; simp_all; done)
      | exact ⟨by simp [isLook, isWd, *], rfl⟩

set_option maxRecDepth 100000 in
set_option maxHeartbeats 1600000 in
theorem zzLabel_c (w : World) (kb ko kc xb xo xc n : Nat) (K : Nat → Int) (T : Nat → ByteArray) (P E : Nat → Int) (hn : 0 < n) (hn1 : n ≤ 1048576) (hk : NumsIn .u8 w kb ko n K) (hx : StrsIn w xb xo n T)
    (j : Nat) (hj : j ≤ 1048576) :
    Calls Tryf.prog 29 #[.slice (some ⟨kb, ko, none⟩) n kc, .slice (some ⟨xb, xo, none⟩) n xc, .int .i64 j] w fun e w' => e = .returned (.bool (isLb (tokAt (mkToks n K T P E) j) (tokAt (mkToks n K T P E) (j + 1)))) ∧ w' = w := by
  have L := zzLook_c w kb ko kc xb xo xc n K T P E hn hn1 hk hx j hj
  unfold isLb
  generalize isLook (tokAt (mkToks n K T P E) j) (tokAt (mkToks n K T P E) (j + 1)) = lk at *
  rw [tokAt_mk hn]
  have ha := atNat_lt (n := n) (j := j) hn
  have z1 := fun w => zzAt_c w n j (by omega) hn hn1
  rw [Int.toNat_natCast] at z1
  generalize atNat n j = a at *
  have k0 := hk _ ha
  have Z1 : Hid (∀ w, Calls Tryf.prog 30 #[.int .i64 n, .int .i64 j] w fun e w' => e = .returned (.int .i64 a) ∧ w' = w) := z1
  have HL : Hid (Calls Tryf.prog 40 #[.slice (some ⟨kb, ko, none⟩) n kc, .slice (some ⟨xb, xo, none⟩) n xc, .int .i64 j] w fun e w' => e = .returned (.bool lk) ∧ w' = w) := L
  clear hk hx z1 L
  by_cases c2 : K a = 2
  · have d2 : (K a == 2) = true := by simpa using c2
    have d1 : (K a == 1) = false := by simp; omega
    go_enter Tryf.func29, Tryf.ntmps29
    go_wp2_with fail
    refine (Z1.out _).mono ?_
    rintro e w1 ⟨rfl, rfl⟩
    go_wp2_with fail
    all_goals go_ret
    all_goals exact ⟨by simp [*], rfl⟩
  · have d2 : (K a == 2) = false := by simpa using c2
    by_cases c1 : K a = 1
    · have d1 : (K a == 1) = true := by simpa using c1
      go_enter Tryf.func29, Tryf.ntmps29
      go_wp2_with fail
      refine (Z1.out _).mono ?_
      rintro e w1 ⟨rfl, rfl⟩
      go_wp2_with fail
      refine HL.out.mono ?_
      rintro e w1 ⟨rfl, rfl⟩
      go_wp2_with fail
      all_goals go_ret
      all_goals exact ⟨by simp [*], rfl⟩
    · have d1 : (K a == 1) = false := by simpa using c1
      go_enter Tryf.func29, Tryf.ntmps29
      go_wp2_with fail
      refine (Z1.out _).mono ?_
      rintro e w1 ⟨rfl, rfl⟩
      go_wp2_with fail
      all_goals go_ret
      all_goals exact ⟨by simp [*], rfl⟩

end Go.Proofs.Qxb6616070aFmt
