/-
  PLAIN FACTS: what the clause's reader has read when it stops; and that it stops there, too, on the stream that is cut there.
-/
import Derived.Test.Qxb6616070aFmtPPlain
namespace Go.Proofs.Qxb6616070aFmt

/-- Dots and labels from j on: what was read, and why it stopped. -/
theorem dot_clause (ts : List Tok) : ∀ f j, ts.length ≤ j + f →
    (∀ x, j ≤ x → x < (dotRun ts f j).2 → ((x - j) % 2 = 0 → isPt (tk ts x) ⟨#[46]⟩ = true) ∧ ((x - j) % 2 = 1 → isLb (tokAt ts x) (tokAt ts (x + 1)) = true)) ∧
    (((dotRun ts f j).2 - j) % 2 = 1 → (dotRun ts f j).1 = true ∧ isLb (tokAt ts (dotRun ts f j).2) (tokAt ts ((dotRun ts f j).2 + 1)) = false) ∧
    (((dotRun ts f j).2 - j) % 2 = 0 → (dotRun ts f j).1 = false ∧ isPt (tk ts (dotRun ts f j).2) ⟨#[46]⟩ = false)
  | 0, j, hf => by
    have hp : isPt (tk ts j) ⟨#[46]⟩ = false := by
      cases hp : isPt (tk ts j) ⟨#[46]⟩
      · rfl
      · have := dot_in hp; omega
    rw [dotRun_stop 0 hp]
    exact ⟨fun x h1 h2 => by omega, fun h => by simp only at h; omega, fun _ => ⟨rfl, hp⟩⟩
  | f + 1, j, hf => by
    cases hp : isPt (tk ts j) ⟨#[46]⟩
    · rw [dotRun_stop (f + 1) hp]
      exact ⟨fun x h1 h2 => by omega, fun h => by simp only at h; omega, fun _ => ⟨rfl, hp⟩⟩
    · cases hl : isLb (tokAt ts (j + 1)) (tokAt ts (j + 1 + 1))
      · rw [dotRun_bad f hp hl]
        refine ⟨fun x h1 h2 => ?_, fun _ => ⟨rfl, hl⟩, fun h => by simp only at h; omega⟩
        simp only at h2
        obtain rfl : x = j := by omega
        exact ⟨fun _ => hp, fun h => by omega⟩
      · rw [dotRun_step f hp hl]
        obtain ⟨a1, a2, a3⟩ := dot_clause ts f (j + 2) (by omega)
        have hle := dotRun_le ts f (j + 2)
        refine ⟨fun x h1 h2 => ?_, fun h => a2 (by omega), fun h => a3 (by omega)⟩
        by_cases h3 : j + 2 ≤ x
        · obtain ⟨b1, b2⟩ := a1 x h3 h2
          exact ⟨fun h => b1 (by omega), fun h => b2 (by omega)⟩
        · by_cases h4 : x = j
          · subst h4
            exact ⟨fun _ => hp, fun h => by omega⟩
          · obtain rfl : x = j + 1 := by omega
            exact ⟨fun h => by omega, fun _ => hl⟩

/-- A clause from m to k. -/
structure Clause (ts : List Tok) (m : Nat) (er : Bool) (k : Nat) : Prop where
  far : m + 1 ≤ k
  dots : ∀ x, m + 1 ≤ x → x < k → (x - m) % 2 = 0 → isPt (tk ts x) ⟨#[46]⟩ = true
  name : m + 1 < k → isNm (tokAt ts (m + 1)) (tokAt ts (m + 1 + 1)) = true
  labels : ∀ x, m + 1 ≤ x → x < k → (x - m) % 2 = 1 → x - m ≠ 1 → isLb (tokAt ts x) (tokAt ts (x + 1)) = true
  badName : k - m = 1 → er = true ∧ isNm (tokAt ts k) (tokAt ts (k + 1)) = false
  badLabel : (k - m) % 2 = 1 → k - m ≠ 1 → er = true ∧ isLb (tokAt ts k) (tokAt ts (k + 1)) = false
  good : (k - m) % 2 = 0 → er = false ∧ isPt (tk ts k) ⟨#[46]⟩ = false

theorem any_clause (ts : List Tok) (m : Nat) : Clause ts m (anyRun ts (m + 1)).1 (anyRun ts (m + 1)).2 := by
  unfold anyRun
  cases hn : isNm (tokAt ts (m + 1)) (tokAt ts (m + 1 + 1))
  · rw [if_neg (by decide)]
    exact ⟨Nat.le_refl _, fun x h1 h2 => by simp only at h2; omega, fun h => by simp only at h; omega, fun x h1 h2 => by simp only at h2; omega, fun _ => ⟨rfl, hn⟩, fun _ h => by simp only at h; omega, fun h => by simp only at h; omega⟩
  · rw [if_pos rfl]
    obtain ⟨a1, a2, a3⟩ := dot_clause ts ts.length (m + 1 + 1) (by omega)
    have hle := dotRun_le ts ts.length (m + 1 + 1)
    refine ⟨by omega, fun x h1 h2 h3 => ?_, fun _ => hn, fun x h1 h2 h3 h4 => ?_, fun h => by omega, fun h1 _ => a2 (by omega), fun h => a3 (by omega)⟩
    · exact (a1 x (by omega) h2).1 (by omega)
    · exact (a1 x (by omega) h2).2 (by omega)

/-- The stream cut at k. -/
structure Cut (ts us : List Tok) (k : Nat) : Prop where
  len : us.length = k + 1
  inside : k < ts.length
  same : ∀ j, j < k → tk us j = tk ts j
  kind : (tk us k).kind = 0

theorem Cut.at_ {ts us : List Tok} {k : Nat} (h : Cut ts us k) {j : Nat} (hj : j < k) : tokAt us j = tokAt ts j := by
  unfold tokAt
  rw [if_pos (by rw [h.len]; omega), if_pos (by have := h.inside; omega), h.same j hj]

theorem Cut.atk {ts us : List Tok} {k : Nat} (h : Cut ts us k) : tokAt us k = tk us k := by
  unfold tokAt
  rw [if_pos (by rw [h.len]; omega)]

theorem look_eof (t nx : Tok) (h : nx.kind = 0) : isLook t nx = false := by
  unfold isLook isWd
  rw [h]
  split
  · rfl
  · split <;> rfl

theorem nm_eof {t nx u : Tok} (h : u.kind = 0) (k : isNm t nx = true) : isNm t u = true := by
  unfold isNm at k ⊢
  rw [look_eof t u h]
  cases h1 : t.kind == 2
  · rw [h1] at k
    simp only [Bool.false_or, Bool.and_eq_true] at k
    simp [k.1]
  · rfl

theorem lb_eof {t nx u : Tok} (h : u.kind = 0) (k : isLb t nx = true) : isLb t u = true := by
  unfold isLb at k ⊢
  rw [look_eof t u h]
  cases h1 : t.kind == 1
  · rw [h1] at k
    simpa using k
  · rfl

theorem pt_eof {t : Tok} (h : t.kind = 0) (c : ByteArray) : isPt t c = false := by
  unfold isPt
  rw [h]
  rfl

theorem wd_eof {t : Tok} (h : t.kind = 0) (c : ByteArray) : isWd t c = false := by
  unfold isWd
  rw [h]
  rfl

theorem Cut.next {ts us : List Tok} {k : Nat} (h : Cut ts us k) {j : Nat} (hj : j + 1 ≤ k) : (isNm (tokAt ts j) (tokAt ts (j + 1)) = true → isNm (tokAt us j) (tokAt us (j + 1)) = true) ∧ (isLb (tokAt ts j) (tokAt ts (j + 1)) = true → isLb (tokAt us j) (tokAt us (j + 1)) = true) := by
  rw [h.at_ (show j < k by omega)]
  by_cases e : j + 1 = k
  · subst e
    have h0 : (tokAt us (j + 1)).kind = 0 := by rw [h.atk]; exact h.kind
    exact ⟨nm_eof h0, lb_eof h0⟩
  · rw [h.at_ (show j + 1 < k by omega)]
    exact ⟨id, id⟩

theorem Cut.dot {ts us : List Tok} {k : Nat} (h : Cut ts us k) : ∀ f j, dotRun ts f j = (false, k) → ∀ g, k + 1 ≤ j + g → dotRun us g j = (false, k)
  | 0, j, hd, g, hg => by
    obtain rfl : j = k := congrArg Prod.snd hd
    exact dotRun_stop g (pt_eof h.kind _)
  | f + 1, j, hd, g, hg => by
    have hle := dotRun_le ts (f + 1) j
    rw [hd] at hle
    simp only at hle
    by_cases hjk : j = k
    · subst hjk
      exact dotRun_stop g (pt_eof h.kind _)
    · cases hp : isPt (tk ts j) ⟨#[46]⟩
      · rw [dotRun_stop (f + 1) hp] at hd
        exact absurd (congrArg Prod.snd hd) hjk
      · cases hl : isLb (tokAt ts (j + 1)) (tokAt ts (j + 1 + 1))
        · rw [dotRun_bad f hp hl] at hd
          exact absurd (congrArg Prod.fst hd) Bool.noConfusion
        · rw [dotRun_step f hp hl] at hd
          have hle2 := dotRun_le ts f (j + 2)
          rw [hd] at hle2
          simp only at hle2
          obtain ⟨g, rfl⟩ : ∃ g', g = g' + 1 := ⟨g - 1, by omega⟩
          rw [dotRun_step g (by rw [h.same j (by omega)]; exact hp) ((h.next (by omega)).2 hl)]
          exact h.dot f (j + 2) hd g (by omega)

theorem Cut.valid {ts us : List Tok} {k m : Nat} (h : Cut ts us k) (hv : validRun ts m = (false, k)) : validRun us m = (false, k) := by
  cases hno : isWd (tk ts m) wNo
  · cases hva : isWd (tk ts m) wValidator
    · rw [valid_else hno hva] at hv
      obtain rfl : m = k := congrArg Prod.snd hv
      exact valid_else (wd_eof h.kind _) (wd_eof h.kind _)
    · rw [valid_val hva] at hv
      have c := any_clause ts m
      rw [hv] at c
      have hfar := c.far
      simp only at hfar
      have hk : m + 1 < k := by
        by_cases e : k - m = 1
        · exact absurd (c.badName e).1 Bool.noConfusion
        · omega
      have hn := c.name hk
      rw [valid_val (by rw [h.same m (by omega)]; exact hva)]
      unfold anyRun at hv ⊢
      rw [if_pos hn] at hv
      rw [if_pos ((h.next (by omega)).1 hn)]
      exact h.dot _ _ hv _ (by rw [h.len]; omega)
  · rw [valid_no hno] at hv
    cases hva : isWd (tk ts (m + 1)) wValidator
    · rw [hva] at hv
      exact absurd (congrArg Prod.fst hv) Bool.noConfusion
    · rw [hva, if_pos rfl] at hv
      obtain rfl : m + 2 = k := congrArg Prod.snd hv
      rw [valid_no (by rw [h.same m (by omega)]; exact hno), h.same (m + 1) (by omega), hva, if_pos rfl]

/-- The cut stream's four fields. -/
def cutK (K : Nat → Int) (k : Nat) : Nat → Int := fun j => if j < k then K j else 0
def cutT (T : Nat → ByteArray) (k : Nat) : Nat → ByteArray := fun j => if j < k then T j else ⟨#[]⟩
def cutP (P : Nat → Int) (k : Nat) : Nat → Int := fun j => if j < k then P j else P k
def cutE (E P : Nat → Int) (k : Nat) : Nat → Int := fun j => if j < k then E j else P k

theorem cut_mk {n k : Nat} (K : Nat → Int) (T : Nat → ByteArray) (P E : Nat → Int) (hk : k < n) : Cut (mkToks n K T P E) (mkToks (k + 1) (cutK K k) (cutT T k) (cutP P k) (cutE E P k)) k where
  len := mkToks_length _ _ _ _ _
  inside := by rw [mkToks_length]; exact hk
  same := fun j hj => by
    rw [tk_mk (by omega), tk_mk (by omega)]
    unfold cutK cutT cutP cutE
    rw [if_pos hj, if_pos hj, if_pos hj, if_pos hj]
  kind := by
    rw [tk_mk (by omega)]
    unfold cutK
    simp

theorem tokOK_cut {src : ByteArray} {n k : Nat} {K : Nat → Int} {T : Nat → ByteArray} {P E : Nat → Int} (h : TokOK src (mkToks n K T P E)) (hk : k < n) :
    TokOK src (mkToks (k + 1) (cutK K k) (cutT T k) (cutP P k) (cutE E P k)) := by
  have C := cut_mk K T P E hk
  have hl := mkToks_length n K T P E
  have hs := h.short
  rw [hl] at hs
  have last : tk (mkToks (k + 1) (cutK K k) (cutT T k) (cutP P k) (cutE E P k)) k = ⟨0, ⟨#[]⟩, P k, P k⟩ := by
    rw [tk_mk (by omega)]
    unfold cutK cutT cutP cutE
    simp
  refine ⟨?_, ?_, fun j => ?_, fun j hj => ?_, fun j => ?_, fun j hj => ?_, h.srcShort⟩
  · rw [mkToks_length]; omega
  · rw [mkToks_length]; omega
  · by_cases hj : j < k
    · rw [C.same j hj]; exact h.small j
    · by_cases e : j = k
      · subst e; rw [last]; exact Nat.zero_le _
      · rw [tk_past (by rw [mkToks_length]; omega)]; exact Nat.zero_le _
  · rw [mkToks_length] at hj ⊢
    by_cases e : j = k
    · subst e; rw [last]; simp
    · rw [C.same j (by omega), h.eof j (by rw [hl]; omega), hl]
      omega
  · by_cases hj : j < k
    · rw [C.same j hj]; exact h.low j
    · by_cases e : j = k
      · subst e; rw [last]; exact ⟨Int.le_refl _, by simp⟩
      · rw [tk_past (by rw [mkToks_length]; omega)]; simp [noTok]
  · rw [mkToks_length] at hj
    by_cases e : j = k
    · subst e
      rw [last]
      have := h.span j (by rw [hl]; exact hk)
      rw [tk_mk hk] at this
      simp only at this ⊢
      omega
    · rw [C.same j (by omega)]; exact h.span j (by rw [hl]; omega)

end Go.Proofs.Qxb6616070aFmt
