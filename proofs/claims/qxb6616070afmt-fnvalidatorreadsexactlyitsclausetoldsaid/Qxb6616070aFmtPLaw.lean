/-
  THE LAWS' OWN READERS OF THE STREAM: zzAt, zzIsWord, zzIsDot.
-/
import Derived.Test.Qxb6616070aFmtPMake
namespace Go.Proofs.Qxb6616070aFmt
open Go.RowKit

/-- Token j's place, or the last one past the end. -/
def atNat (n j : Nat) : Nat := if j < n then j else n - 1

theorem atNat_lt {n j : Nat} (h : 0 < n) : atNat n j < n := by
  unfold atNat
  split <;> omega

theorem tokAt_mk {n : Nat} {K : Nat → Int} {T : Nat → ByteArray} {P E : Nat → Int} (h : 0 < n) (j : Nat) :
    tokAt (mkToks n K T P E) j = ⟨K (atNat n j), T (atNat n j), P (atNat n j), E (atNat n j)⟩ := by
  unfold tokAt atNat
  rw [mkToks_length]
  split
  · rename_i hj
    exact tk_mk hj
  · exact tk_mk (by omega)

theorem zzAt_c (w : World) (n : Nat) (j : Int) (h0 : 0 ≤ j) (hn : 0 < n) (hn1 : n ≤ 1048576) :
    Calls Tryf.prog 30 #[.int .i64 n, .int .i64 j] w fun e w' => e = .returned (.int .i64 (atNat n j.toNat)) ∧ w' = w := by
  obtain ⟨m, rfl⟩ := Int.eq_ofNat_of_zero_le h0
  rw [Int.toNat_natCast]
  unfold atNat
  by_cases h : m < n
  · rw [if_pos h]
    go_enter Tryf.func30, Tryf.ntmps30
    go_wp2
    go_ret
    exact ⟨rfl, rfl⟩
  · rw [if_neg h]
    go_enter Tryf.func30, Tryf.ntmps30
    go_wp2
    go_ret
    refine ⟨?_, rfl⟩
    show Ending.returned (.int .i64 ((n : Int) - 1)) = _
    rw [show ((n : Int) - 1) = ((n - 1 : Nat) : Int) by omega]

theorem zzIsWord_c (w : World) (kb ko kc xb xo xc n : Nat) (K : Nat → Int) (T : Nat → ByteArray) (P E : Nat → Int) (hn : 0 < n) (hn1 : n ≤ 1048576) (hk : NumsIn .u8 w kb ko n K) (hx : StrsIn w xb xo n T)
    (j : Int) (h0 : 0 ≤ j) (kw : ByteArray) :
    Calls Tryf.prog 16 #[.slice (some ⟨kb, ko, none⟩) n kc, .slice (some ⟨xb, xo, none⟩) n xc, .int .i64 j, .string kw] w fun e w' => e = .returned (.bool (isWd (tokAt (mkToks n K T P E) j.toNat) kw)) ∧ w' = w := by
  rw [tokAt_mk hn]
  go_enter Tryf.func16, Tryf.ntmps16
  go_wp2_with fail
  refine (zzAt_c _ n j h0 hn hn1).mono ?_
  rintro e w1 ⟨rfl, rfl⟩
  have ha := atNat_lt (n := n) (j := j.toNat) hn
  have k0 := hk _ ha
  have k1 := hx _ ha
  clear hk hx
  go_wp2
  · go_ret
    exact ⟨by simp [isWd, *], rfl⟩
  · go_ret
    exact ⟨by simp [isWd, *], rfl⟩

theorem zzIsDot_c (w : World) (kb ko kc xb xo xc n : Nat) (K : Nat → Int) (T : Nat → ByteArray) (P E : Nat → Int) (hn : 0 < n) (hn1 : n ≤ 1048576) (hk : NumsIn .u8 w kb ko n K) (hx : StrsIn w xb xo n T)
    (j : Int) (h0 : 0 ≤ j) :
    Calls Tryf.prog 17 #[.slice (some ⟨kb, ko, none⟩) n kc, .slice (some ⟨xb, xo, none⟩) n xc, .int .i64 j] w fun e w' => e = .returned (.bool (isPt (tokAt (mkToks n K T P E) j.toNat) ⟨#[46]⟩)) ∧ w' = w := by
  rw [tokAt_mk hn]
  go_enter Tryf.func17, Tryf.ntmps17
  go_wp2_with fail
  refine (zzAt_c _ n j h0 hn hn1).mono ?_
  rintro e w1 ⟨rfl, rfl⟩
  have ha := atNat_lt (n := n) (j := j.toNat) hn
  have k0 := hk _ ha
  have k1 := hx _ ha
  clear hk hx
  go_wp2
  · go_ret
    exact ⟨by simp [isPt, *], rfl⟩
  · go_ret
    exact ⟨by simp [isPt, *], rfl⟩

end Go.Proofs.Qxb6616070aFmt
