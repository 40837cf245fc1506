/-
  THE LAW's OWN TEST OF THE ANSWER: zzValidatorAnswerIs.
-/
import Derived.Test.Qxb6616070aFmtPZname
import Derived.Test.Qxb6616070aFmtPCut
namespace Go.Proofs.Qxb6616070aFmt
open Go.RowKit

set_option maxRecDepth 100000 in
set_option maxHeartbeats 3200000 in
/-- 'no validator' and its kin. -/
theorem answer_no (w : World) (A n m k kc xc qc : Nat) (K : Nat → Int) (T : Nat → ByteArray) (P E : Nat → Int) (er : Bool) (code : ByteArray) (posn : Int) (hn1 : n ≤ 1048576) (hm : m < n) (hk : k < n) (R : Row4 w A n K T P E)
    (hno : isWd (tk (mkToks n K T P E) m) wNo = true) (hm1 : m + 1 < n) (hv : (er, k) = if isWd (tk (mkToks n K T P E) (m + 1)) wValidator then (false, m + 2) else (true, m + 1))
    (hc : er = true → code = ⟨#[52, 50, 54, 48, 49]⟩ ∧ posn = P k + 1) (hp : 0 ≤ P k ∧ P k ≤ 1048576) :
    Calls Tryf.prog 13 #[.slice (some ⟨A, 0, none⟩) n kc, .slice (some ⟨A + 1, 0, none⟩) n xc, .slice (some ⟨A + 1 + 1, 0, none⟩) n qc, .int .i64 m, .bool er, .string code, .int .i64 posn, .int .i64 k] w
      fun e w' => e = .returned (.bool true) ∧ w' = w := by
  have hl := mkToks_length n K T P E
  have c1 := zzIsWord_c w A 0 kc (A + 1) 0 xc n K T P E (by omega) hn1 R.kinds R.texts m (by omega) wNo
  have c2 := zzIsWord_c w A 0 kc (A + 1) 0 xc n K T P E (by omega) hn1 R.kinds R.texts ((m : Int) + 1) (by omega) wValidator
  rw [Int.toNat_natCast, tokAt_in (by rw [hl]; exact hm), hno] at c1
  rw [show ((m : Int) + 1).toNat = m + 1 by omega, tokAt_in (by rw [hl]; exact hm1)] at c2
  have kp := R.poss k hk
  rw [Nat.zero_add] at kp
  generalize isWd (tk (mkToks n K T P E) (m + 1)) wValidator = va at *
  have C1 : Hid (Calls Tryf.prog 16 #[.slice (some ⟨A, 0, none⟩) n kc, .slice (some ⟨A + 1, 0, none⟩) n xc, .int .i64 m, .string wNo] w fun e w' => e = .returned (.bool true) ∧ w' = w) := c1
  have C2 : Hid (Calls Tryf.prog 16 #[.slice (some ⟨A, 0, none⟩) n kc, .slice (some ⟨A + 1, 0, none⟩) n xc, .int .i64 ((m : Int) + 1), .string wValidator] w fun e w' => e = .returned (.bool va) ∧ w' = w) := c2
  clear c1 c2 R hno hl
  cases va
  · simp only [Bool.false_eq_true, if_false, Prod.mk.injEq] at hv
    obtain ⟨rfl, rfl⟩ := hv
    obtain ⟨rfl, rfl⟩ := hc rfl
    obtain ⟨p0, p1⟩ := hp
    clear hc
    go_enter Tryf.func13, Tryf.ntmps13
    go_wp2_with fail
    refine C1.out.mono ?_
    rintro e w1 ⟨rfl, rfl⟩
    go_wp2_with fail
    refine C2.out.mono ?_
    rintro e w1 ⟨rfl, rfl⟩
    go_wp2_with fail
    go_ret
    exact ⟨by simp, rfl⟩
  · simp only [if_true, Prod.mk.injEq] at hv
    obtain ⟨rfl, rfl⟩ := hv
    clear hc hp kp
    go_enter Tryf.func13, Tryf.ntmps13
    go_wp2_with fail
    refine C1.out.mono ?_
    rintro e w1 ⟨rfl, rfl⟩
    go_wp2_with fail
    refine C2.out.mono ?_
    rintro e w1 ⟨rfl, rfl⟩
    go_wp2_with fail
    go_ret
    exact ⟨by simp, rfl⟩

set_option maxRecDepth 100000 in
set_option maxHeartbeats 3200000 in
/-- Neither word: nothing is read. -/
theorem answer_else (w : World) (A n m kc xc qc : Nat) (K : Nat → Int) (T : Nat → ByteArray) (P E : Nat → Int) (code : ByteArray) (posn : Int) (hn1 : n ≤ 1048576) (hm : m < n) (R : Row4 w A n K T P E)
    (hno : isWd (tk (mkToks n K T P E) m) wNo = false) (hva : isWd (tk (mkToks n K T P E) m) wValidator = false) :
    Calls Tryf.prog 13 #[.slice (some ⟨A, 0, none⟩) n kc, .slice (some ⟨A + 1, 0, none⟩) n xc, .slice (some ⟨A + 1 + 1, 0, none⟩) n qc, .int .i64 m, .bool false, .string code, .int .i64 posn, .int .i64 m] w
      fun e w' => e = .returned (.bool true) ∧ w' = w := by
  have hl := mkToks_length n K T P E
  have c1 := zzIsWord_c w A 0 kc (A + 1) 0 xc n K T P E (by omega) hn1 R.kinds R.texts m (by omega) wNo
  have c2 := zzIsWord_c w A 0 kc (A + 1) 0 xc n K T P E (by omega) hn1 R.kinds R.texts m (by omega) wValidator
  rw [Int.toNat_natCast, tokAt_in (by rw [hl]; exact hm)] at c1 c2
  rw [hno] at c1
  rw [hva] at c2
  have C1 : Hid (Calls Tryf.prog 16 #[.slice (some ⟨A, 0, none⟩) n kc, .slice (some ⟨A + 1, 0, none⟩) n xc, .int .i64 m, .string wNo] w fun e w' => e = .returned (.bool false) ∧ w' = w) := c1
  have C2 : Hid (Calls Tryf.prog 16 #[.slice (some ⟨A, 0, none⟩) n kc, .slice (some ⟨A + 1, 0, none⟩) n xc, .int .i64 m, .string wValidator] w fun e w' => e = .returned (.bool false) ∧ w' = w) := c2
  clear c1 c2 R hno hl hva
  go_enter Tryf.func13, Tryf.ntmps13
  go_wp2_with fail
  refine C1.out.mono ?_
  rintro e w1 ⟨rfl, rfl⟩
  go_wp2_with fail
  refine C2.out.mono ?_
  rintro e w1 ⟨rfl, rfl⟩
  go_wp2_with fail
  go_ret
  exact ⟨by simp, rfl⟩

set_option maxRecDepth 100000 in
set_option maxHeartbeats 3200000 in
/-- 'validator' and what follows it. -/
theorem answer_val (w : World) (A n m k kc xc qc : Nat) (K : Nat → Int) (T : Nat → ByteArray) (P E : Nat → Int) (er : Bool) (code : ByteArray) (posn : Int) (hn1 : n ≤ 1048576) (hm : m < n) (hk : k < n) (R : Row4 w A n K T P E)
    (hno : isWd (tk (mkToks n K T P E) m) wNo = false) (hva : isWd (tk (mkToks n K T P E) m) wValidator = true) (C : Clause (mkToks n K T P E) m er k)
    (hc : er = true → code = ⟨#[52, 50, 54, 48, 49]⟩ ∧ posn = P k + 1) (hp : 0 ≤ P k ∧ P k ≤ 1048576) :
    Calls Tryf.prog 13 #[.slice (some ⟨A, 0, none⟩) n kc, .slice (some ⟨A + 1, 0, none⟩) n xc, .slice (some ⟨A + 1 + 1, 0, none⟩) n qc, .int .i64 m, .bool er, .string code, .int .i64 posn, .int .i64 k] w
      fun e w' => e = .returned (.bool true) ∧ w' = w := by
  have hl := mkToks_length n K T P E
  have c1 := zzIsWord_c w A 0 kc (A + 1) 0 xc n K T P E (by omega) hn1 R.kinds R.texts m (by omega) wNo
  have c2 := zzIsWord_c w A 0 kc (A + 1) 0 xc n K T P E (by omega) hn1 R.kinds R.texts m (by omega) wValidator
  have cd : ∀ x : Nat, x < n → Calls Tryf.prog 17 #[.slice (some ⟨A, 0, none⟩) n kc, .slice (some ⟨A + 1, 0, none⟩) n xc, .int .i64 x] w fun e w' => e = .returned (.bool (isPt (tk (mkToks n K T P E) x) ⟨#[46]⟩)) ∧ w' = w := fun x hx => by
    have := zzIsDot_c w A 0 kc (A + 1) 0 xc n K T P E (by omega) hn1 R.kinds R.texts x (by omega)
    rwa [Int.toNat_natCast, tokAt_in (by rw [hl]; exact hx)] at this
  have cl : ∀ x : Nat, x < n → Calls Tryf.prog 29 #[.slice (some ⟨A, 0, none⟩) n kc, .slice (some ⟨A + 1, 0, none⟩) n xc, .int .i64 x] w fun e w' => e = .returned (.bool (isLb (tokAt (mkToks n K T P E) x) (tokAt (mkToks n K T P E) (x + 1)))) ∧ w' = w := fun x hx =>
    zzLabel_c w A 0 kc (A + 1) 0 xc n K T P E (by omega) hn1 R.kinds R.texts x (by omega)
  have cn : ∀ x : Nat, x < n → Calls Tryf.prog 28 #[.slice (some ⟨A, 0, none⟩) n kc, .slice (some ⟨A + 1, 0, none⟩) n xc, .int .i64 x] w fun e w' => e = .returned (.bool (isNm (tokAt (mkToks n K T P E) x) (tokAt (mkToks n K T P E) (x + 1)))) ∧ w' = w := fun x hx =>
    zzName_c w A 0 kc (A + 1) 0 xc n K T P E (by omega) hn1 R.kinds R.texts x (by omega)
  rw [Int.toNat_natCast, tokAt_in (by rw [hl]; exact hm)] at c1 c2
  rw [hno] at c1
  rw [hva] at c2
  have kp := R.poss k hk
  rw [Nat.zero_add] at kp
  have C1 : Hid (Calls Tryf.prog 16 #[.slice (some ⟨A, 0, none⟩) n kc, .slice (some ⟨A + 1, 0, none⟩) n xc, .int .i64 m, .string wNo] w fun e w' => e = .returned (.bool false) ∧ w' = w) := c1
  have C2 : Hid (Calls Tryf.prog 16 #[.slice (some ⟨A, 0, none⟩) n kc, .slice (some ⟨A + 1, 0, none⟩) n xc, .int .i64 m, .string wValidator] w fun e w' => e = .returned (.bool true) ∧ w' = w) := c2
  have CD : Hid (∀ x : Nat, x < n → Calls Tryf.prog 17 #[.slice (some ⟨A, 0, none⟩) n kc, .slice (some ⟨A + 1, 0, none⟩) n xc, .int .i64 x] w fun e w' => e = .returned (.bool (isPt (tk (mkToks n K T P E) x) ⟨#[46]⟩)) ∧ w' = w) := cd
  have CL : Hid (∀ x : Nat, x < n → Calls Tryf.prog 29 #[.slice (some ⟨A, 0, none⟩) n kc, .slice (some ⟨A + 1, 0, none⟩) n xc, .int .i64 x] w fun e w' => e = .returned (.bool (isLb (tokAt (mkToks n K T P E) x) (tokAt (mkToks n K T P E) (x + 1)))) ∧ w' = w) := cl
  have CN : Hid (∀ x : Nat, x < n → Calls Tryf.prog 28 #[.slice (some ⟨A, 0, none⟩) n kc, .slice (some ⟨A + 1, 0, none⟩) n xc, .int .i64 x] w fun e w' => e = .returned (.bool (isNm (tokAt (mkToks n K T P E) x) (tokAt (mkToks n K T P E) (x + 1)))) ∧ w' = w) := cn
  have far := C.far
  have HC : Hid (Clause (mkToks n K T P E) m er k) := C
  have step0 : (er = true ∧ code = ⟨#[52, 50, 54, 48, 49]⟩ ∧ posn = P k + 1) ∨ er = false := by
    cases er
    · exact .inr rfl
    · exact .inl ⟨rfl, (hc rfl).1, (hc rfl).2⟩
  obtain ⟨p0, p1⟩ := hp
  clear c1 c2 cd cl cn R hno hl hva C hc
  rcases step0 with ⟨rfl, rfl, rfl⟩ | rfl
  · go_enter Tryf.func13, Tryf.ntmps13
    go_wp2_with fail
    refine C1.out.mono ?_
    rintro e w1 ⟨rfl, hw⟩
    have hw' := hw.symm
    subst hw'
    clear hw
    go_wp2_with fail
    refine C2.out.mono ?_
    rintro e w1 ⟨rfl, hw⟩
    have hw' := hw.symm
    subst hw'
    clear hw C1 C2
    go_wp2_with fail
    go_loopw [18, 19] (fun v _ wr => ∃ x : Nat, v = .int .i64 x ∧ m + 1 ≤ x ∧ x ≤ k ∧ wr = w) (fun v _ _ => k - (intOf v).toNat)
    case atStart => exact ⟨m + 1, by simp, Nat.le_refl _, far, rfl⟩
    case round =>
      obtain ⟨x, rfl, hx1, hx2, hw⟩ := hrel
      have hw' := hw.symm
      subst hw'
      clear hw
      obtain ⟨dd, hdd⟩ : ∃ dd : Nat, x - m = dd := ⟨_, rfl⟩
      have e1 : (x : Int) - (m : Int) = (dd : Int) := by omega
      by_cases hxk : x < k
      · by_cases par : dd % 2 = 0
        · have h := HC.out.dots x hx1 hxk (by omega)
          have call := CD.out x (by omega)
          rw [h] at call
          have CC : Hid (Calls Tryf.prog 17 #[.slice (some ⟨A, 0, none⟩) n kc, .slice (some ⟨A + 1, 0, none⟩) n xc, .int .i64 x] w fun e w' => e = .returned (.bool true) ∧ w' = w) := call
          have q : ((dd : Int) % 2 == 0) = true := by simp; omega
          clear h call par hdd
          go_wp2_with fail
          refine CC.out.mono ?_
          rintro e w1 ⟨rfl, hw⟩
          have hw' := hw.symm
          subst hw'
          clear hw
          go_wp2_with fail
          go_roundw
          case rel => exact ⟨x + 1, by simp, by omega, by omega, trivial⟩
          case measure => simp [intOf]; omega
        · have q : ((dd : Int) % 2 == 0) = false := by simp; omega
          by_cases one : dd = 1
          · have h := HC.out.name (by omega)
            rw [show m + 1 = x by omega] at h
            have call := CN.out x (by omega)
            rw [h] at call
            have CC : Hid (Calls Tryf.prog 28 #[.slice (some ⟨A, 0, none⟩) n kc, .slice (some ⟨A + 1, 0, none⟩) n xc, .int .i64 x] w fun e w' => e = .returned (.bool true) ∧ w' = w) := call
            have q1 : ((dd : Int) == 1) = true := by simp; omega
            clear h call par hdd one
            go_wp2_with fail
            refine CC.out.mono ?_
            rintro e w1 ⟨rfl, hw⟩
            have hw' := hw.symm
            subst hw'
            clear hw
            go_wp2_with fail
            go_roundw
            case rel => exact ⟨x + 1, by simp, by omega, by omega, trivial⟩
            case measure => simp [intOf]; omega
          · have h := HC.out.labels x hx1 hxk (by omega) (by omega)
            have call := CL.out x (by omega)
            rw [h] at call
            have CC : Hid (Calls Tryf.prog 29 #[.slice (some ⟨A, 0, none⟩) n kc, .slice (some ⟨A + 1, 0, none⟩) n xc, .int .i64 x] w fun e w' => e = .returned (.bool true) ∧ w' = w) := call
            have q1 : ((dd : Int) == 1) = false := by simp; omega
            clear h call par hdd one
            go_wp2_with fail
            refine CC.out.mono ?_
            rintro e w1 ⟨rfl, hw⟩
            have hw' := hw.symm
            subst hw'
            clear hw
            go_wp2_with fail
            go_roundw
            case rel => exact ⟨x + 1, by simp, by omega, by omega, trivial⟩
            case measure => simp [intOf]; omega
      · obtain rfl : x = k := by omega
        clear hxk hx2
        have par : dd % 2 = 1 := by
          by_cases h : dd % 2 = 1
          · exact h
          · exact absurd (HC.out.good (by omega)).1 Bool.noConfusion
        have q : ((dd : Int) % 2 == 1) = true := by simp; omega
        by_cases one : dd = 1
        · have h := (HC.out.badName (by omega)).2
          have call := CN.out x hk
          rw [h] at call
          have CC : Hid (Calls Tryf.prog 28 #[.slice (some ⟨A, 0, none⟩) n kc, .slice (some ⟨A + 1, 0, none⟩) n xc, .int .i64 x] w fun e w' => e = .returned (.bool false) ∧ w' = w) := call
          have q1 : ((dd : Int) == 1) = true := by simp; omega
          clear h call par hdd one
          go_wp2_with fail
          refine CC.out.mono ?_
          rintro e w1 ⟨rfl, hw⟩
          have hw' := hw.symm
          subst hw'
          clear hw
          go_wp2_with fail
          go_ret
          exact ⟨rfl, rfl⟩
        · have h := (HC.out.badLabel (by omega) (by omega)).2
          have call := CL.out x hk
          rw [h] at call
          have CC : Hid (Calls Tryf.prog 29 #[.slice (some ⟨A, 0, none⟩) n kc, .slice (some ⟨A + 1, 0, none⟩) n xc, .int .i64 x] w fun e w' => e = .returned (.bool false) ∧ w' = w) := call
          have q1 : ((dd : Int) == 1) = false := by simp; omega
          clear h call par hdd one
          go_wp2_with fail
          refine CC.out.mono ?_
          rintro e w1 ⟨rfl, hw⟩
          have hw' := hw.symm
          subst hw'
          clear hw
          go_wp2_with fail
          go_ret
          exact ⟨rfl, rfl⟩
  · clear kp p0 p1
    go_enter Tryf.func13, Tryf.ntmps13
    go_wp2_with fail
    refine C1.out.mono ?_
    rintro e w1 ⟨rfl, hw⟩
    have hw' := hw.symm
    subst hw'
    clear hw
    go_wp2_with fail
    refine C2.out.mono ?_
    rintro e w1 ⟨rfl, hw⟩
    have hw' := hw.symm
    subst hw'
    clear hw C1 C2
    go_wp2_with fail
    go_loopw [18, 19] (fun v _ wr => ∃ x : Nat, v = .int .i64 x ∧ m + 1 ≤ x ∧ x ≤ k ∧ wr = w) (fun v _ _ => k - (intOf v).toNat)
    case atStart => exact ⟨m + 1, by simp, Nat.le_refl _, far, rfl⟩
    case round =>
      obtain ⟨x, rfl, hx1, hx2, hw⟩ := hrel
      have hw' := hw.symm
      subst hw'
      clear hw
      obtain ⟨dd, hdd⟩ : ∃ dd : Nat, x - m = dd := ⟨_, rfl⟩
      have e1 : (x : Int) - (m : Int) = (dd : Int) := by omega
      by_cases hxk : x < k
      · by_cases par : dd % 2 = 0
        · have h := HC.out.dots x hx1 hxk (by omega)
          have call := CD.out x (by omega)
          rw [h] at call
          have CC : Hid (Calls Tryf.prog 17 #[.slice (some ⟨A, 0, none⟩) n kc, .slice (some ⟨A + 1, 0, none⟩) n xc, .int .i64 x] w fun e w' => e = .returned (.bool true) ∧ w' = w) := call
          have q : ((dd : Int) % 2 == 0) = true := by simp; omega
          clear h call par hdd
          go_wp2_with fail
          refine CC.out.mono ?_
          rintro e w1 ⟨rfl, hw⟩
          have hw' := hw.symm
          subst hw'
          clear hw
          go_wp2_with fail
          go_roundw
          case rel => exact ⟨x + 1, by simp, by omega, by omega, trivial⟩
          case measure => simp [intOf]; omega
        · have q : ((dd : Int) % 2 == 0) = false := by simp; omega
          by_cases one : dd = 1
          · have h := HC.out.name (by omega)
            rw [show m + 1 = x by omega] at h
            have call := CN.out x (by omega)
            rw [h] at call
            have CC : Hid (Calls Tryf.prog 28 #[.slice (some ⟨A, 0, none⟩) n kc, .slice (some ⟨A + 1, 0, none⟩) n xc, .int .i64 x] w fun e w' => e = .returned (.bool true) ∧ w' = w) := call
            have q1 : ((dd : Int) == 1) = true := by simp; omega
            clear h call par hdd one
            go_wp2_with fail
            refine CC.out.mono ?_
            rintro e w1 ⟨rfl, hw⟩
            have hw' := hw.symm
            subst hw'
            clear hw
            go_wp2_with fail
            go_roundw
            case rel => exact ⟨x + 1, by simp, by omega, by omega, trivial⟩
            case measure => simp [intOf]; omega
          · have h := HC.out.labels x hx1 hxk (by omega) (by omega)
            have call := CL.out x (by omega)
            rw [h] at call
            have CC : Hid (Calls Tryf.prog 29 #[.slice (some ⟨A, 0, none⟩) n kc, .slice (some ⟨A + 1, 0, none⟩) n xc, .int .i64 x] w fun e w' => e = .returned (.bool true) ∧ w' = w) := call
            have q1 : ((dd : Int) == 1) = false := by simp; omega
            clear h call par hdd one
            go_wp2_with fail
            refine CC.out.mono ?_
            rintro e w1 ⟨rfl, hw⟩
            have hw' := hw.symm
            subst hw'
            clear hw
            go_wp2_with fail
            go_roundw
            case rel => exact ⟨x + 1, by simp, by omega, by omega, trivial⟩
            case measure => simp [intOf]; omega
      · obtain rfl : x = k := by omega
        clear hxk hx2
        have par : dd % 2 = 0 := by
          by_cases h : dd % 2 = 0
          · exact h
          · exfalso
            by_cases one : dd = 1
            · exact absurd (HC.out.badName (by omega)).1 Bool.noConfusion
            · exact absurd (HC.out.badLabel (by omega) (by omega)).1 Bool.noConfusion
        have q : ((dd : Int) % 2 == 1) = false := by simp; omega
        have two : ¬ (dd : Int) < 2 := by omega
        have h := (HC.out.good (by omega)).2
        have call := CD.out x hk
        rw [h] at call
        have CC : Hid (Calls Tryf.prog 17 #[.slice (some ⟨A, 0, none⟩) n kc, .slice (some ⟨A + 1, 0, none⟩) n xc, .int .i64 x] w fun e w' => e = .returned (.bool false) ∧ w' = w) := call
        clear h call par hdd
        go_wp2_with fail
        refine CC.out.mono ?_
        rintro e w1 ⟨rfl, hw⟩
        have hw' := hw.symm
        subst hw'
        clear hw
        go_wp2_with fail
        go_ret
        exact ⟨rfl, rfl⟩

end Go.Proofs.Qxb6616070aFmt
