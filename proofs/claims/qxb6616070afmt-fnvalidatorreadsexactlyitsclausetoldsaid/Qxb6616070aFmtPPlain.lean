/-
  PLAIN FACTS ON THE CLAUSE's READER: how far it goes; that enough fuel is enough; that tokens ahead of i change nothing.
-/
import Derived.Test.Qxb6616070aFmtPValid
import Derived.Test.Qxb6616070aFmtPStream
namespace Go.Proofs.Qxb6616070aFmt

theorem tk_past {ts : List Tok} {j : Nat} (h : ts.length ≤ j) : tk ts j = noTok := by simp [tk, h]

theorem dot_in {ts : List Tok} {j : Nat} (h : isPt (tk ts j) ⟨#[46]⟩ = true) : j < ts.length := by
  rcases Nat.lt_or_ge j ts.length with h1 | h1
  · exact h1
  · rw [tk_past h1] at h
    simp [isPt, noTok] at h

theorem dotRun_le (ts : List Tok) : ∀ f j, j ≤ (dotRun ts f j).2
  | 0, j => Nat.le_refl _
  | f + 1, j => by
    cases hp : isPt (tk ts j) ⟨#[46]⟩
    · rw [dotRun_stop (f + 1) hp]; exact Nat.le_refl _
    · cases hl : isLb (tokAt ts (j + 1)) (tokAt ts (j + 1 + 1))
      · rw [dotRun_bad f hp hl]; exact Nat.le_succ _
      · rw [dotRun_step f hp hl]
        have := dotRun_le ts f (j + 2)
        omega

theorem dotRun_end (ts : List Tok) : ∀ f j, ts.length ≤ j + f → (dotRun ts f j).1 = false → isPt (tk ts (dotRun ts f j).2) ⟨#[46]⟩ = false
  | 0, j, hf, _ => by
    cases hp : isPt (tk ts j) ⟨#[46]⟩
    · exact hp
    · have := dot_in hp; omega
  | f + 1, j, hf, h => by
    cases hp : isPt (tk ts j) ⟨#[46]⟩
    · rw [dotRun_stop (f + 1) hp]; exact hp
    · cases hl : isLb (tokAt ts (j + 1)) (tokAt ts (j + 1 + 1))
      · rw [dotRun_bad f hp hl] at h; cases h
      · rw [dotRun_step f hp hl] at h ⊢
        exact dotRun_end ts f (j + 2) (by omega) h

theorem dotRun_fuel (ts : List Tok) : ∀ f g j, ts.length ≤ j + f → ts.length ≤ j + g → dotRun ts f j = dotRun ts g j
  | 0, g, j, hf, _ => by
    cases hp : isPt (tk ts j) ⟨#[46]⟩
    · rw [dotRun_stop g hp]; rfl
    · have := dot_in hp; omega
  | f + 1, g, j, hf, hg => by
    cases hp : isPt (tk ts j) ⟨#[46]⟩
    · rw [dotRun_stop g hp, dotRun_stop (f + 1) hp]
    · obtain ⟨g, rfl⟩ : ∃ g', g = g' + 1 := ⟨g - 1, by have := dot_in hp; omega⟩
      cases hl : isLb (tokAt ts (j + 1)) (tokAt ts (j + 1 + 1))
      · rw [dotRun_bad f hp hl, dotRun_bad g hp hl]
      · rw [dotRun_step f hp hl, dotRun_step g hp hl]
        exact dotRun_fuel ts f g (j + 2) (by omega) (by omega)

/-- us is ts from token i on. -/
structure Shifted (ts us : List Tok) (i : Nat) : Prop where
  len : ts.length = us.length + i
  tk_ : ∀ j, tk us j = tk ts (i + j)
  at_ : ∀ j, tokAt us j = tokAt ts (i + j)

theorem Shifted.dot {ts us : List Tok} {i : Nat} (h : Shifted ts us i) : ∀ f j, dotRun ts f (i + j) = ((dotRun us f j).1, (dotRun us f j).2 + i)
  | 0, j => by simp [dotRun, Nat.add_comm]
  | f + 1, j => by
    rw [dotRun, dotRun, ← h.tk_ j, show i + j + 1 = i + (j + 1) by omega, show i + j + 2 = i + (j + 2) by omega, ← h.at_, ← h.at_]
    split
    · split
      · exact h.dot f (j + 2)
      · simp only [Prod.mk.injEq, true_and]; omega
    · simp only [Prod.mk.injEq, true_and]; omega

theorem Shifted.any {ts us : List Tok} {i : Nat} (h : Shifted ts us i) (j : Nat) : anyRun ts (i + j) = ((anyRun us j).1, (anyRun us j).2 + i) := by
  rw [anyRun, anyRun, show i + j + 1 = i + (j + 1) by omega, ← h.at_, ← h.at_]
  split
  · rw [h.dot, dotRun_fuel us ts.length us.length (j + 1) (by have := h.len; omega) (by omega)]
  · rw [Nat.add_comm]

theorem Shifted.valid {ts us : List Tok} {i : Nat} (h : Shifted ts us i) : validRun ts i = ((validRun us 0).1, (validRun us 0).2 + i) := by
  have h0 : tk ts i = tk us 0 := (h.tk_ 0).symm
  have h1 : tk ts (i + 1) = tk us (0 + 1) := (h.tk_ 1).symm
  rw [validRun, validRun, h0, h1]
  split
  · rw [h.any]
  · split
    · split
      · simp only [Prod.mk.injEq, true_and]; omega
      · simp only [Prod.mk.injEq, true_and]; omega
    · simp only [Prod.mk.injEq, true_and]; omega

/-- The shifted fields are the shifted stream. -/
theorem mk_shifted (n i : Nat) (K : Nat → Int) (T : Nat → ByteArray) (P E : Nat → Int) (hi : i < n) :
    Shifted (mkToks n K T P E) (mkToks (n - i) (fun j => K (i + j)) (fun j => T (i + j)) (fun j => P (i + j)) (fun j => E (i + j))) i := by
  have htk : ∀ j, tk (mkToks (n - i) (fun j => K (i + j)) (fun j => T (i + j)) (fun j => P (i + j)) (fun j => E (i + j))) j = tk (mkToks n K T P E) (i + j) := by
    intro j
    by_cases hj : j < n - i
    · rw [tk_mk hj, tk_mk (by omega)]
    · rw [tk_past (by rw [mkToks_length]; omega), tk_past (by rw [mkToks_length]; omega)]
  refine ⟨by rw [mkToks_length, mkToks_length]; omega, htk, fun j => ?_⟩
  rw [tokAt_mk (by omega), tokAt_mk (by omega)]
  unfold atNat
  by_cases hj : j < n - i
  · rw [if_pos hj, if_pos (by omega)]
  · rw [if_neg hj, if_neg (by omega), show i + (n - i - 1) = n - 1 by omega]

/-- A stream that the guard lets by is a lexed stream. -/
theorem tokOK_mk {src : ByteArray} {n : Nat} {K : Nat → Int} {T : Nat → ByteArray} {P E : Nat → Int} {i : Int} (hs : SmallAll src n n n n T) (ho : StreamOK src n K P E i) (hn : 0 < n) (hK : ∀ j, j < n → 0 ≤ K j) : TokOK src (mkToks n K T P E) where
  ne := by rw [mkToks_length]; exact hn
  short := by rw [mkToks_length]; exact hs.kinds
  small := fun j => by
    by_cases hj : j < n
    · rw [tk_mk hj]; exact hs.each j hj
    · rw [tk_past (by rw [mkToks_length]; omega)]; exact Nat.zero_le _
  eof := fun j hj => by
    rw [mkToks_length] at hj ⊢
    rw [tk_mk hj]
    by_cases hl : j + 1 = n
    · have : j = n - 1 := by omega
      subst this
      simp [ho.last, hl]
    · have := (ho.kinds j (by omega)).1
      simp [this, hl]
  low := fun j => by
    by_cases hj : j < n
    · rw [tk_mk hj]
      refine ⟨hK j hj, ?_⟩
      by_cases hl : j + 1 = n
      · have : j = n - 1 := by omega
        subst this
        simp [ho.last]
      · exact (ho.kinds j (by omega)).2
    · rw [tk_past (by rw [mkToks_length]; omega)]; simp [noTok]
  span := fun j hj => by
    rw [mkToks_length] at hj
    rw [tk_mk hj]
    exact ho.span j hj
  srcShort := hs.src

/-- .. and so is what is left of it from token i on. -/
theorem tokOK_drop {src : ByteArray} {n m : Nat} {K : Nat → Int} {T : Nat → ByteArray} {P E : Nat → Int} (h : TokOK src (mkToks n K T P E)) (hm : m < n) :
    TokOK src (mkToks (n - m) (fun j => K (m + j)) (fun j => T (m + j)) (fun j => P (m + j)) (fun j => E (m + j))) := by
  have S := mk_shifted n m K T P E hm
  have hl := mkToks_length n K T P E
  refine ⟨?_, ?_, fun j => ?_, fun j hj => ?_, fun j => ?_, fun j hj => ?_, h.srcShort⟩
  · rw [mkToks_length]; omega
  · have := h.short
    rw [mkToks_length] at this ⊢; omega
  · rw [S.tk_]; exact h.small _
  · rw [mkToks_length] at hj
    rw [S.tk_, h.eof (m + j) (by rw [hl]; omega), hl, mkToks_length]
    omega
  · rw [S.tk_]; exact h.low _
  · rw [mkToks_length] at hj
    rw [S.tk_]; exact h.span (m + j) (by rw [hl]; omega)

theorem no_not_validator {t : Tok} (h : isWd t wNo = true) : isWd t wValidator = false := by
  simp only [isWd, Bool.and_eq_true, beq_iff_eq] at h
  simp only [isWd, h.2]
  simp [wNo, wValidator]

theorem valid_no {ts : List Tok} {m : Nat} (h : isWd (tk ts m) wNo = true) : validRun ts m = if isWd (tk ts (m + 1)) wValidator then (false, m + 2) else (true, m + 1) := by
  rw [validRun, no_not_validator h, h]
  simp

theorem valid_val {ts : List Tok} {m : Nat} (h : isWd (tk ts m) wValidator = true) : validRun ts m = anyRun ts (m + 1) := by
  rw [validRun, if_pos h]

theorem valid_else {ts : List Tok} {m : Nat} (h1 : isWd (tk ts m) wNo = false) (h2 : isWd (tk ts m) wValidator = false) : validRun ts m = (false, m) := by
  rw [validRun, h1, h2]
  simp

theorem any_le (ts : List Tok) (j : Nat) : j ≤ (anyRun ts j).2 := by
  rw [anyRun]
  split
  · have := dotRun_le ts ts.length (j + 1)
    omega
  · exact Nat.le_refl _

theorem any_good {ts : List Tok} {j : Nat} (h : (anyRun ts j).1 = false) : j + 1 ≤ (anyRun ts j).2 ∧ isPt (tk ts (anyRun ts j).2) ⟨#[46]⟩ = false := by
  rw [anyRun] at h ⊢
  split
  · rename_i hn
    rw [if_pos hn] at h
    exact ⟨dotRun_le ts ts.length (j + 1), dotRun_end ts ts.length (j + 1) (by omega) h⟩
  · rename_i hn
    rw [if_neg hn] at h
    cases h

end Go.Proofs.Qxb6616070aFmt
