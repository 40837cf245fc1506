/-
  THE LAWS' OWN READERS OF THE STREAM, MORE: zzIsName.
-/
import Derived.Test.Qxb6616070aFmtPZres
import Derived.Test.Qxb6616070aFmtPZlook
namespace Go.Proofs.Qxb6616070aFmt
open Go.RowKit

set_option maxRecDepth 100000 in
set_option maxHeartbeats 1600000 in
theorem zzName_c (w : World) (kb ko kc xb xo xc n : Nat) (K : Nat → Int) (T : Nat → ByteArray) (P E : Nat → Int) (hn : 0 < n) (hn1 : n ≤ 1048576) (hk : NumsIn .u8 w kb ko n K) (hx : StrsIn w xb xo n T)
    (j : Nat) (hj : j ≤ 1048576) :
    Calls Tryf.prog 28 #[.slice (some ⟨kb, ko, none⟩) n kc, .slice (some ⟨xb, xo, none⟩) n xc, .int .i64 j] w fun e w' => e = .returned (.bool (isNm (tokAt (mkToks n K T P E) j) (tokAt (mkToks n K T P E) (j + 1)))) ∧ w' = w := by
  have L := zzLook_c w kb ko kc xb xo xc n K T P E hn hn1 hk hx j hj
  unfold isNm
  generalize isLook (tokAt (mkToks n K T P E) j) (tokAt (mkToks n K T P E) (j + 1)) = lk at *
  rw [tokAt_mk hn]
  have ha := atNat_lt (n := n) (j := j) hn
  have z1 := fun w => zzAt_c w n j (by omega) hn hn1
  rw [Int.toNat_natCast] at z1
  generalize atNat n j = a at *
  have k0 := hk _ ha
  have k1 := hx _ ha
  have z3 := zzReserved_c w (T a)
  generalize isRes (T a).toList = rs at *
  have Z1 : Hid (∀ w, Calls Tryf.prog 30 #[.int .i64 n, .int .i64 j] w fun e w' => e = .returned (.int .i64 a) ∧ w' = w) := z1
  have Z3 : Hid (Calls Tryf.prog 39 #[.string (T a)] w fun e w' => e = .returned (.bool rs) ∧ w' = w) := z3
  have HL : Hid (Calls Tryf.prog 40 #[.slice (some ⟨kb, ko, none⟩) n kc, .slice (some ⟨xb, xo, none⟩) n xc, .int .i64 j] w fun e w' => e = .returned (.bool lk) ∧ w' = w) := L
  clear hk hx z1 z3 L
  by_cases c2 : K a = 2
  · have d2 : (K a == 2) = true := by simpa using c2
    have d1 : (K a == 1) = false := by simp; omega
    go_enter Tryf.func28, Tryf.ntmps28
    go_wp2_with fail
    refine (Z1.out _).mono ?_
    rintro e w1 ⟨rfl, rfl⟩
    go_wp2_with fail
    all_goals go_ret
    all_goals exact ⟨by simp [*], rfl⟩
  · have d2 : (K a == 2) = false := by simpa using c2
    by_cases c1 : K a = 1
    · have d1 : (K a == 1) = true := by simpa using c1
      go_enter Tryf.func28, Tryf.ntmps28
      go_wp2_with fail
      refine (Z1.out _).mono ?_
      rintro e w1 ⟨rfl, rfl⟩
      go_wp2_with fail
      refine Z3.out.mono ?_
      rintro e w1 ⟨rfl, rfl⟩
      cases rs
      · go_wp2_with fail
        refine HL.out.mono ?_
        rintro e w1 ⟨rfl, rfl⟩
        go_wp2_with fail
        all_goals go_ret
        all_goals exact ⟨by simp [*], rfl⟩
      · go_wp2_with fail
        all_goals go_ret
        all_goals exact ⟨by simp [*], rfl⟩
    · have d1 : (K a == 1) = false := by simpa using c1
      go_enter Tryf.func28, Tryf.ntmps28
      go_wp2_with fail
      refine (Z1.out _).mono ?_
      rintro e w1 ⟨rfl, rfl⟩
      go_wp2_with fail
      all_goals go_ret
      all_goals exact ⟨by simp [*], rfl⟩

end Go.Proofs.Qxb6616070aFmt
