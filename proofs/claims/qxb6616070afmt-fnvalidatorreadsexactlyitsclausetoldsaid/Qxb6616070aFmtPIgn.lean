/-
  FnValidatorIgnoresWhatCameBefore, WALKED.
-/
import Derived.Test.Qxb6616070aFmtPPlain
import Derived.Test.Qxb6616070aFmtPCopy
import Derived.Deep.Cut
import Derived.Deep.RegionWith
namespace Go.Proofs.Qxb6616070aFmt
open Go.RowKit Go.Extern.Stop Go.Stop Go.Extern

/-- The arguments of a law, as they came in: each slice is nil or leads to its cells. -/
structure Came (w : World) (ka xa qa ea : Option Addr) (kn xn qn en : Nat) (K : Nat → Int) (T : Nat → ByteArray) (P E : Nat → Int) : Prop where
  kinds : 0 < kn → ∃ b o, ka = some ⟨b, o, none⟩ ∧ NumsIn .u8 w b o kn K ∧ b < w.heap.size
  texts : 0 < xn → ∃ b o, xa = some ⟨b, o, none⟩ ∧ StrsIn w b o xn T ∧ b < w.heap.size
  poss : 0 < qn → ∃ b o, qa = some ⟨b, o, none⟩ ∧ NumsIn .i64 w b o qn P ∧ b < w.heap.size
  ends : 0 < en → ∃ b o, ea = some ⟨b, o, none⟩ ∧ NumsIn .i64 w b o en E ∧ b < w.heap.size
  low : ∀ j, j < kn → 0 ≤ K j

theorem Came.strs {w : World} {ka xa qa ea : Option Addr} {kn xn qn en : Nat} {K : Nat → Int} {T : Nat → ByteArray} {P E : Nat → Int} (h : Came w ka xa qa ea kn xn qn en K T P E) : 0 < xn → ∃ b o, xa = some ⟨b, o, none⟩ ∧ StrsIn w b o xn T :=
  fun hx => by obtain ⟨b, o, h1, h2, _⟩ := h.texts hx; exact ⟨b, o, h1, h2⟩

theorem Came.below {w w' : World} {ka xa qa ea : Option Addr} {kn xn qn en : Nat} {K : Nat → Int} {T : Nat → ByteArray} {P E : Nat → Int} (h : Came w ka xa qa ea kn xn qn en K T P E) (hb : Below w.heap.size w w') : Came w' ka xa qa ea kn xn qn en K T P E where
  kinds := fun hx => by obtain ⟨b, o, h1, h2, h3⟩ := h.kinds hx; exact ⟨b, o, h1, h2.below hb h3, Nat.lt_of_lt_of_le h3 hb.size⟩
  texts := fun hx => by obtain ⟨b, o, h1, h2, h3⟩ := h.texts hx; exact ⟨b, o, h1, h2.below hb h3, Nat.lt_of_lt_of_le h3 hb.size⟩
  poss := fun hx => by obtain ⟨b, o, h1, h2, h3⟩ := h.poss hx; exact ⟨b, o, h1, h2.below hb h3, Nat.lt_of_lt_of_le h3 hb.size⟩
  ends := fun hx => by obtain ⟨b, o, h1, h2, h3⟩ := h.ends hx; exact ⟨b, o, h1, h2.below hb h3, Nat.lt_of_lt_of_le h3 hb.size⟩
  low := h.low

theorem szA (W : World) (o : Obj) : (W.alloc o).heap.size = W.heap.size + 1 := by simp

/-- The copies' rows. -/
def kObj (n : Nat) (K : Nat → Int) : Obj := .cells (rowArr n fun j => .int .u8 (K j)) 5
def xObj (n : Nat) (T : Nat → ByteArray) : Obj := .cells (rowArr n fun j => .string (T j)) 9
def qObj (n : Nat) (P : Nat → Int) : Obj := .cells (rowArr n fun j => .int .i64 (P j)) 3

/-- The four copies lie in blocks B to B + 3. -/
structure Row4 (w : World) (B n : Nat) (K : Nat → Int) (T : Nat → ByteArray) (P E : Nat → Int) : Prop where
  kinds : NumsIn .u8 w B 0 n K
  texts : StrsIn w (B + 1) 0 n T
  poss : NumsIn .i64 w (B + 1 + 1) 0 n P
  ends : NumsIn .i64 w (B + 1 + 1 + 1) 0 n E
  top : B + 1 + 1 + 1 < w.heap.size

theorem Row4.below {w w' : World} {B n : Nat} {K : Nat → Int} {T : Nat → ByteArray} {P E : Nat → Int} (h : Row4 w B n K T P E) (hb : Below w.heap.size w w') : Row4 w' B n K T P E :=
  have ht := h.top
  ⟨h.kinds.below hb (by omega), h.texts.below hb (by omega), h.poss.below hb (by omega), h.ends.below hb (by omega), Nat.lt_of_lt_of_le ht hb.size⟩

theorem Row4.near {pb : Nat} {w w' : World} {B n : Nat} {K : Nat → Int} {T : Nat → ByteArray} {P E : Nat → Int} (h : Row4 w B n K T P E) (hb : Near pb w w') (hp : B + 1 + 1 + 1 < pb) : Row4 w' B n K T P E :=
  have ht := h.top
  ⟨fun j hj => by rw [hb.cell (by simp only; omega) (by simp only; omega)]; exact h.kinds j hj, fun j hj => by rw [hb.cell (by simp only; omega) (by simp only; omega)]; exact h.texts j hj,
   fun j hj => by rw [hb.cell (by simp only; omega) (by simp only; omega)]; exact h.poss j hj, fun j hj => by rw [hb.cell (by simp only; omega) (by simp only; omega)]; exact h.ends j hj, Nat.lt_of_lt_of_le ht hb.size⟩

/-- The world behind the four copies. -/
def copied (w : World) (n : Nat) (K : Nat → Int) (T : Nat → ByteArray) (P E : Nat → Int) : World := (((w.alloc (kObj n K)).alloc (xObj n T)).alloc (qObj n P)).alloc (qObj n E)

theorem copied_below (w : World) (n : Nat) (K : Nat → Int) (T : Nat → ByteArray) (P E : Nat → Int) : Below w.heap.size w (copied w n K T P E) :=
  ((((Below.refl _ w).alloc (Nat.le_refl _) _).alloc (by rw [szA]; omega) _).alloc (by rw [szA, szA]; omega) _).alloc (by rw [szA, szA, szA]; omega) _

theorem copied_row (w : World) (n : Nat) (K : Nat → Int) (T : Nat → ByteArray) (P E : Nat → Int) : Row4 (copied w n K T P E) w.heap.size n K T P E := by
  have r1 : (copied w n K T P E).rowIs w.heap.size 5 n (fun j => .int .u8 (K j)) := (((rowArr_row w 5 n (fun j => .int .u8 (K j))).alloc (xObj n T)).alloc (qObj n P)).alloc (qObj n E)
  have r2 := ((rowArr_row (w.alloc (kObj n K)) 9 n (fun j => .string (T j))).alloc (qObj n P)).alloc (qObj n E)
  have r3 := (rowArr_row ((w.alloc (kObj n K)).alloc (xObj n T)) 3 n (fun j => .int .i64 (P j))).alloc (qObj n E)
  have r4 := rowArr_row (((w.alloc (kObj n K)).alloc (xObj n T)).alloc (qObj n P)) 3 n (fun j => .int .i64 (E j))
  rw [szA] at r2
  rw [szA, szA] at r3
  rw [szA, szA, szA] at r4
  refine ⟨fun j hj => ?_, fun j hj => ?_, fun j hj => ?_, fun j hj => ?_, ?_⟩
  · rw [Nat.zero_add]; exact r1.cell hj
  · rw [Nat.zero_add]; exact r2.cell hj
  · rw [Nat.zero_add]; exact r3.cell hj
  · rw [Nat.zero_add]; exact r4.cell hj
  · unfold copied
    rw [szA, szA, szA, szA]
    omega

set_option maxRecDepth 100000 in
set_option maxHeartbeats 4000000 in
theorem ignores_c (F : Interp) (w : World) (hF : F.answers w.tape) (mb : Nat) (hr : ResIn w mb) (src : ByteArray) (ka xa qa ea : Option Addr) (kn kc xn xc qn qc en ec : Nat) (i : Int) (K : Nat → Int) (T : Nat → ByteArray) (P E : Nat → Int)
    (hc : Came w ka xa qa ea kn xn qn en K T P E) :
    Calls Tryf.prog 4 #[.string src, .slice ka kn kc, .slice xa xn xc, .slice qa qn qc, .slice ea en ec, .int .i64 i] w
      fun e w' => e = .returned (.bool true) ∧ Below w.heap.size w w' := by
  go_enter Tryf.func4, Tryf.ntmps4
  go_wp2_with fail
  refine (bytes15 _ src ka xa qa ea kn kc xn xc qn qc en ec i T (by exact hc.strs)).mono ?_
  rintro e w1 ⟨b1, rfl, hb1, hy1⟩
  have HB1 : Hid (Below w.heap.size w w1) := hb1
  have HC1 : Came w1 ka xa qa ea kn xn qn en K T P E := hc.below hb1
  clear hb1 hc
  cases b1
  · clear hy1
    go_wp2_with fail
    go_ret
    exact ⟨rfl, HB1.out⟩
  have hsm := hy1 rfl
  clear hy1
  go_wp2_with fail
  refine (tooBig_c _ src ka xa qa ea kn kc xn xc qn qc en ec T hsm (by exact HC1.strs)).mono ?_
  rintro e w2 ⟨b2, rfl, hb2, _⟩
  have HB2 : Hid (Below w.heap.size w w2) := HB1.out.trans (hb2.mono HB1.out.size)
  have HC2 : Came w2 ka xa qa ea kn xn qn en K T P E := HC1.below hb2
  clear hb2 HC1 HB1
  cases b2
  case true =>
    go_wp2_with fail
    go_ret
    exact ⟨rfl, HB2.out⟩
  go_wp2_with fail
  by_cases hgood : 0 < kn ∧ xn = kn ∧ qn = kn ∧ en = kn
  case neg =>
    refine (streamOK_bad _ src ka xa qa ea kn kc xn xc qn qc en ec i hgood).mono ?_
    rintro e w3 ⟨rfl, rfl⟩
    go_wp2_with fail
    go_ret
    exact ⟨rfl, HB2.out⟩
  obtain ⟨hn, rfl, rfl, rfl⟩ := hgood
  obtain ⟨kb, ko, rfl, hk, bk⟩ := HC2.kinds hn
  obtain ⟨xb, xo, rfl, hx, bx⟩ := HC2.texts hn
  obtain ⟨qb, qo, rfl, hq, bq⟩ := HC2.poss hn
  obtain ⟨eb, eo, rfl, he, be⟩ := HC2.ends hn
  refine (streamOK_run _ src kb ko kc xb xo xc qb qo qc eb eo ec _ K P E i hn hsm.kinds hk hq he bk bq be).mono ?_
  rintro e w3 ⟨b3, rfl, hb3, hy3⟩
  have HB3 : Hid (Below w.heap.size w w3) := HB2.out.trans (hb3.mono HB2.out.size)
  have hk3 := hk.below hb3 bk
  have hx3 := hx.below hb3 bx
  have hq3 := hq.below hb3 bq
  have he3 := he.below hb3 be
  have bk3 := Nat.lt_of_lt_of_le bk hb3.size
  have bx3 := Nat.lt_of_lt_of_le bx hb3.size
  have bq3 := Nat.lt_of_lt_of_le bq hb3.size
  have be3 := Nat.lt_of_lt_of_le be hb3.size
  have hlow := HC2.low
  clear hb3 hk hx hq he bk bx bq be HC2 HB2
  cases b3
  · clear hy3
    go_wp2_with fail
    go_ret
    exact ⟨rfl, HB3.out⟩
  have hok := hy3 rfl
  clear hy3
  obtain ⟨m, rfl⟩ := Int.eq_ofNat_of_zero_le hok.lo
  have hm : m < en := by have := hok.hi; omega
  have htok : TokOK src (mkToks en K T P E) := tokOK_mk hsm hok hn hlow
  have hn1 := hsm.kinds
  clear hok hsm hlow
  have hm5 := make5 en (by omega)
  have hm9 := make9 en (by omega)
  have hm3 := make3 en (by omega)
  have hc1 := fun ty => run_copy_new (P := Tryf.prog) w3 22 ty 5 Tryf.underlying22 size5 (zeros (.int .u8 0) en) en (zeros_size _ _) kb ko kc (fun j => .int .u8 (K j)) bk3 hk3 (fun _ _ => rfl)
  have hc2 := fun ty => run_copy_new (P := Tryf.prog) (w3.alloc (kObj en K)) 23 ty 9 Tryf.underlying23 size9 (zeros (.string ⟨#[]⟩) en) en (zeros_size _ _) xb xo xc (fun j => .string (T j)) (by rw [szA]; omega) (hx3.below ((Below.refl _ w3).alloc (Nat.le_refl _) _) bx3) (fun _ _ => rfl)
  have hc3 := fun ty => run_copy_new (P := Tryf.prog) ((w3.alloc (kObj en K)).alloc (xObj en T)) 24 ty 3 Tryf.underlying24 size3 (zeros (.int .i64 0) en) en (zeros_size _ _) qb qo qc (fun j => .int .i64 (P j)) (by rw [szA, szA]; omega) (hq3.below (((Below.refl _ w3).alloc (Nat.le_refl _) _).alloc (by rw [szA]; omega) _) bq3) (fun _ _ => rfl)
  have hc4 := fun ty => run_copy_new (P := Tryf.prog) (((w3.alloc (kObj en K)).alloc (xObj en T)).alloc (qObj en P)) 24 ty 3 Tryf.underlying24 size3 (zeros (.int .i64 0) en) en (zeros_size _ _) eb eo ec (fun j => .int .i64 (E j)) (by rw [szA, szA, szA]; omega) (he3.below ((((Below.refl _ w3).alloc (Nat.le_refl _) _).alloc (by rw [szA]; omega) _).alloc (by rw [szA, szA]; omega) _) be3) (fun _ _ => rfl)
  simp only [szA] at hc2 hc3 hc4
  have hc1' : ∀ ty, (Builtin.copy_ #[22, 22] ty #[.slice (some ⟨w3.heap.size, 0, none⟩) en en, .slice (some ⟨kb, ko, none⟩) en kc]).run Tryf.prog (w3.alloc (.cells (zeros (.int .u8 0) en) 5)) = .ok (goInt en) (w3.alloc (kObj en K)) := hc1
  have hc2' : ∀ ty, (Builtin.copy_ #[23, 23] ty #[.slice (some ⟨w3.heap.size + 1, 0, none⟩) en en, .slice (some ⟨xb, xo, none⟩) en xc]).run Tryf.prog ((w3.alloc (kObj en K)).alloc (.cells (zeros (.string ⟨#[]⟩) en) 9)) = .ok (goInt en) ((w3.alloc (kObj en K)).alloc (xObj en T)) := hc2
  have hc3' : ∀ ty, (Builtin.copy_ #[24, 24] ty #[.slice (some ⟨w3.heap.size + 1 + 1, 0, none⟩) en en, .slice (some ⟨qb, qo, none⟩) en qc]).run Tryf.prog (((w3.alloc (kObj en K)).alloc (xObj en T)).alloc (.cells (zeros (.int .i64 0) en) 3)) = .ok (goInt en) (((w3.alloc (kObj en K)).alloc (xObj en T)).alloc (qObj en P)) := hc3
  have hc4' : ∀ ty, (Builtin.copy_ #[24, 24] ty #[.slice (some ⟨w3.heap.size + 1 + 1 + 1, 0, none⟩) en en, .slice (some ⟨eb, eo, none⟩) en ec]).run Tryf.prog ((((w3.alloc (kObj en K)).alloc (xObj en T)).alloc (qObj en P)).alloc (.cells (zeros (.int .i64 0) en) 3)) = .ok (goInt en) ((((w3.alloc (kObj en K)).alloc (xObj en T)).alloc (qObj en P)).alloc (qObj en E)) := hc4
  clear hc1 hc2 hc3 hc4 hk3 hx3 hq3 he3 bk3 bx3 bq3 be3
  go_wp2_with fail
  clear hc1' hc2' hc3' hc4' hm5 hm9 hm3
  have R4 := copied_row w3 en K T P E
  have B4 := copied_below w3 en K T P E
  have ht4 := R4.top
  refine (newParser_c (copied w3 en K T P E) src w3.heap.size 0 en (w3.heap.size + 1) 0 en (w3.heap.size + 1 + 1) 0 en (w3.heap.size + 1 + 1 + 1) 0 en en m K T P E htok hm R4.kinds R4.texts R4.poss R4.ends (by omega) (by omega) (by omega) (by omega)).mono ?_
  rintro e w5 ⟨pb, rfl, hpb, hA5, hb5⟩
  have HB5 : Hid (Below w.heap.size w w5) := HB3.out.trans ((B4.trans (hb5.mono B4.size)).mono HB3.out.size)
  have R5 := R4.below hb5
  have hF5 : F.answers w5.tape := by rw [HB5.out.tape]; exact hF
  have hr5 : ResIn w5 mb := hr.below HB5.out
  have hp3 : pb ≠ 3 := by have := hr.gin; have := HB3.out.size; omega
  have hpm : pb ≠ mb := by have := hr.min; have := HB3.out.size; omega
  generalize (copied w3 en K T P E).heap.size = tb at hA5 hpb ht4
  clear B4 R4 hb5
  go_wp2_with fail
  refine (zzValidator_c F _ (by exact hF5) pb tb mb src _ m (by exact hA5) (by exact hr5) hp3 hpm).mono ?_
  rintro e w6 ⟨rfl, hA6, hN6⟩
  have S := mk_shifted en m K T P E hm
  have hus := tokOK_drop htok hm
  obtain ⟨⟨er, k2⟩, hv2⟩ : ∃ r, validRun (mkToks (en - m) (fun j => K (m + j)) (fun j => T (m + j)) (fun j => P (m + j)) (fun j => E (m + j))) 0 = r := ⟨_, rfl⟩
  have hv1 := S.valid
  rw [hv2] at hv1
  rw [hv1] at hA6 ⊢
  have HV2 : Hid (validRun (mkToks (en - m) (fun j => K (m + j)) (fun j => T (m + j)) (fun j => P (m + j)) (fun j => E (m + j))) 0 = (er, k2)) := hv2
  have HV1 : Hid (validRun (mkToks en K T P E) m = (er, k2 + m)) := hv1
  have HS : Hid (Shifted (mkToks en K T P E) (mkToks (en - m) (fun j => K (m + j)) (fun j => T (m + j)) (fun j => P (m + j)) (fun j => E (m + j))) m) := S
  have R6 := R5.near hN6 (by omega)
  have HB6 : Hid (Below w.heap.size w w6) := ⟨hN6.os.trans HB5.out.os, hN6.tape.trans HB5.out.tape, hN6.output.trans HB5.out.output, Nat.le_trans HB5.out.size hN6.size, fun k hk => (hN6.block k (Nat.lt_of_lt_of_le hk HB5.out.size) (by have := HB3.out.size; omega)).trans (HB5.out.block k hk)⟩
  have hF6 : F.answers w6.tape := by rw [HB6.out.tape]; exact hF
  have hr6 : ResIn w6 mb := hr.below HB6.out
  have hk2 : k2 + m < en := by have := hA6.place; rwa [mkToks_length] at this
  clear hv1 hv2 S hN6 R5 hA5 HB5 hF5 hr5
  rw [show partsOf (mkToks en K T P E) (er, k2 + m) = .tuple #[.bool er, .string (if er then ⟨#[52, 50, 54, 48, 49]⟩ else ⟨#[]⟩), .int .i64 (if er then P (k2 + m) + 1 else 0)] by
    unfold partsOf
    simp only [tk_mk hk2]
    cases er <;> rfl]
  generalize hcode : (if er then (⟨#[52, 50, 54, 48, 49]⟩ : ByteArray) else ⟨#[]⟩) = code
  generalize hposn : (if er then P (k2 + m) + 1 else 0 : Int) = posn
  have HCD : Hid ((if er then (⟨#[52, 50, 54, 48, 49]⟩ : ByteArray) else ⟨#[]⟩) = code) := hcode
  have HPN : Hid ((if er then P (k2 + m) + 1 else 0 : Int) = posn) := hposn
  clear hcode hposn
  go_wp2_with fail
  refine (parserAt_c _ pb tb src _ (k2 + m) (by exact hA6)).mono ?_
  rintro e w7 ⟨rfl, rfl⟩
  have q0 : (m : Int) ≤ (en : Int) := by omega
  go_wp2_with fail
  have d1 : NumsIn .u8 w7 w3.heap.size m (en - m) (fun j => K (m + j)) := fun j hj => by rw [← Nat.zero_add (m + j)]; exact R6.kinds (m + j) (by omega)
  have d2 : StrsIn w7 (w3.heap.size + 1) m (en - m) (fun j => T (m + j)) := fun j hj => by rw [← Nat.zero_add (m + j)]; exact R6.texts (m + j) (by omega)
  have d3 : NumsIn .i64 w7 (w3.heap.size + 1 + 1) m (en - m) (fun j => P (m + j)) := fun j hj => by rw [← Nat.zero_add (m + j)]; exact R6.poss (m + j) (by omega)
  have d4 : NumsIn .i64 w7 (w3.heap.size + 1 + 1 + 1) m (en - m) (fun j => E (m + j)) := fun j hj => by rw [← Nat.zero_add (m + j)]; exact R6.ends (m + j) (by omega)
  have hN := newParser_c w7.drew src w3.heap.size m (en - m) (w3.heap.size + 1) m (en - m) (w3.heap.size + 1 + 1) m (en - m) (w3.heap.size + 1 + 1 + 1) m (en - m) (en - m) 0 _ _ _ _ hus (by omega) d1 d2 d3 d4
    (by show _ < w7.heap.size; have := R6.top; omega) (by show _ < w7.heap.size; have := R6.top; omega) (by show _ < w7.heap.size; have := R6.top; omega) (by show _ < w7.heap.size; have := R6.top; omega)
  have HN : Hid (Calls Tryf.prog 10 #[.string src, .slice (some ⟨w3.heap.size, m, none⟩) (en - m) (en - m), .slice (some ⟨w3.heap.size + 1, m, none⟩) (en - m) (en - m), .slice (some ⟨w3.heap.size + 1 + 1, m, none⟩) (en - m) (en - m), .slice (some ⟨w3.heap.size + 1 + 1 + 1, m, none⟩) (en - m) (en - m), .int .i64 0] w7.drew
      fun e w' => ∃ qb, e = .returned (.pointer (some ⟨qb, 0, none⟩)) ∧ w7.heap.size < qb ∧ AtTok w' qb w7.heap.size src (mkToks (en - m) (fun j => K (m + j)) (fun j => T (m + j)) (fun j => P (m + j)) (fun j => E (m + j))) 0 ∧ Below w7.heap.size w7.drew w') := hN
  clear hN d1 d2 d3 d4
  have hne : ¬ en = m := by omega
  go_cut [22] from 27 (fun q wx => ∃ qb, q = .pointer (some ⟨qb, 0, none⟩) ∧ w7.heap.size < qb ∧ AtTok wx qb w7.heap.size src (mkToks (en - m) (fun j => K (m + j)) (fun j => T (m + j)) (fun j => P (m + j)) (fun j => E (m + j))) 0 ∧ Below w7.heap.size w7 wx)
  case first =>
    go_region_with (first
      | (go_at_call 10; refine HN.out.mono ?_; rintro e wx ⟨qb, rfl, h1, h2, h3⟩; have HX : Hid (w7.heap.size < qb ∧ AtTok wx qb w7.heap.size src (mkToks (en - m) (fun j => K (m + j)) (fun j => T (m + j)) (fun j => P (m + j)) (fun j => E (m + j))) 0 ∧ Below w7.heap.size w7 wx) := ⟨h1, h2, h3.os, h3.tape, h3.output, h3.size, h3.block⟩; clear h1 h2 h3))
    all_goals go_wp2_with fail
    all_goals go_meet
    all_goals exact ⟨_, rfl, HX.out⟩
  case rest =>
    obtain ⟨qb, rfl, hqb, hAq, hbq⟩ := hcut
    clear HN hne q0
    have HB8 : Hid (Below w.heap.size w wc) := HB6.out.trans (hbq.mono HB6.out.size)
    have R8 := R6.below hbq
    have hF8 : F.answers wc.tape := by rw [HB8.out.tape]; exact hF
    have hr8 : ResIn wc mb := hr.below HB8.out
    have hq3 : qb ≠ 3 := by have := hr.gin; have := HB6.out.size; omega
    have hqm : qb ≠ mb := by have := hr.min; have := HB6.out.size; omega
    have hqr : w3.heap.size + 1 + 1 + 1 < qb := by have := R6.top; omega
    have hqw : w.heap.size < qb := by have := HB6.out.size; omega
    clear HB6 hbq hF6 hr6 hA6 R6
    go_wp2_with fail
    refine (zzValidator_c F _ (by exact hF8) qb _ mb src _ 0 (by exact hAq) (by exact hr8) hq3 hqm).mono ?_
    rintro e w9 ⟨rfl, hA9, hN9⟩
    rw [HV2.out] at hA9 ⊢
    have R9 := R8.near hN9 hqr
    have HB9 : Hid (Below w.heap.size w w9) := ⟨hN9.os.trans HB8.out.os, hN9.tape.trans HB8.out.tape, hN9.output.trans HB8.out.output, Nat.le_trans HB8.out.size hN9.size, fun k hk => (hN9.block k (Nat.lt_of_lt_of_le hk HB8.out.size) (by omega)).trans (HB8.out.block k hk)⟩
    clear hN9 R8 HB8 hF8 hr8 hAq hF hr
    rw [show partsOf (mkToks (en - m) (fun j => K (m + j)) (fun j => T (m + j)) (fun j => P (m + j)) (fun j => E (m + j))) (er, k2) = .tuple #[.bool er, .string code, .int .i64 posn] by
      unfold partsOf
      simp only [tk_mk (show k2 < en - m by omega)]
      rw [← HCD.out, ← HPN.out, Nat.add_comm m k2]
      cases er <;> rfl]
    go_wp2_with fail
    refine (parserAt_c _ qb _ src _ k2 (by exact hA9)).mono ?_
    rintro e w10 ⟨rfl, rfl⟩
    clear hA9
    have hlen := mkToks_length en K T P E
    have HLN : Hid ((mkToks en K T P E).length = en) := hlen
    clear hlen
    have HP : Hid (∀ j, j < en → 0 ≤ P j ∧ P j ≤ 1048576) := fun j hj => by
      have := htok.span j (by rw [HLN.out]; exact hj)
      rw [tk_mk hj] at this
      have h2 := htok.srcShort
      simp only at this
      omega
    have HE : Hid (∀ j, j < en → (K j = 0 ↔ j + 1 = en)) := fun j hj => by
      have := htok.eof j (by rw [HLN.out]; exact hj)
      rwa [tk_mk hj, HLN.out] at this
    go_wp2_with fail
    refine (zzIsWord_c _ w3.heap.size 0 en (w3.heap.size + 1) 0 en en K T P E hn hn1 R9.kinds R9.texts m (by omega) wNo).mono ?_
    rintro e w11 ⟨rfl, rfl⟩
    rw [Int.toNat_natCast, tokAt_in (by rw [HLN.out]; exact hm)]
    cases hno : isWd (tk (mkToks en K T P E) m) wNo
    case true =>
      have hm1 : m + 1 < en := by
        simp only [isWd, Bool.and_eq_true, beq_iff_eq, tk_mk hm] at hno
        have := HE.out m hm
        omega
      have hvr := valid_no hno
      rw [HV1.out] at hvr
      have HR : Hid ((er, k2 + m) = if isWd (tk (mkToks en K T P E) (m + 1)) wValidator then (false, m + 2) else (true, m + 1)) := hvr
      clear hvr
      go_wp2_with fail
      refine (zzIsWord_c _ w3.heap.size 0 en (w3.heap.size + 1) 0 en en K T P E hn hn1 R9.kinds R9.texts ((m : Int) + 1) (by omega) wValidator).mono ?_
      rintro e w12 ⟨rfl, rfl⟩
      rw [show ((m : Int) + 1).toNat = m + 1 by omega, tokAt_in (by rw [HLN.out]; exact hm1)]
      cases hva : isWd (tk (mkToks en K T P E) (m + 1)) wValidator
      · have hx := HR.out
        rw [hva] at hx
        simp only [Bool.false_eq_true, if_false, Prod.mk.injEq] at hx
        obtain ⟨rfl, hx2⟩ := hx
        obtain rfl : k2 = 1 := by omega
        obtain rfl : code = ⟨#[52, 50, 54, 48, 49]⟩ := HCD.out.symm
        obtain rfl : posn = P (m + 1) + 1 := by rw [← HPN.out, Nat.add_comm 1 m]; rfl
        have hp1 := R9.poss (m + 1) hm1
        rw [Nat.zero_add] at hp1
        obtain ⟨b1, b2⟩ := HP.out (m + 1) hm1
        go_wp2_with fail
        go_ret
        refine ⟨?_, HB9.out⟩
        simp
        try omega
      · have hx := HR.out
        rw [hva] at hx
        simp only [if_true, Prod.mk.injEq] at hx
        obtain ⟨rfl, hx2⟩ := hx
        obtain rfl : k2 = 2 := by omega
        go_wp2_with fail
        go_ret
        refine ⟨?_, HB9.out⟩
        simp
        try omega
    case false =>
      go_wp2_with fail
      refine (zzIsWord_c _ w3.heap.size 0 en (w3.heap.size + 1) 0 en en K T P E hn hn1 R9.kinds R9.texts m (by omega) wValidator).mono ?_
      rintro e w12 ⟨rfl, rfl⟩
      rw [Int.toNat_natCast, tokAt_in (by rw [HLN.out]; exact hm)]
      cases hva : isWd (tk (mkToks en K T P E) m) wValidator
      · have hx := valid_else hno hva
        rw [HV1.out] at hx
        simp only [Prod.mk.injEq] at hx
        obtain ⟨rfl, hx2⟩ := hx
        obtain rfl : k2 = 0 := by omega
        go_wp2_with fail
        go_ret
        refine ⟨?_, HB9.out⟩
        simp
      · have hx := valid_val hva
        rw [HV1.out] at hx
        have hle := any_le (mkToks en K T P E) (m + 1)
        rw [← hx] at hle
        cases er
        · have hgd := any_good (ts := mkToks en K T P E) (j := m + 1) (by rw [← hx])
          rw [← hx] at hgd
          obtain ⟨hg1, hg2⟩ := hgd
          have HG : Hid (isPt (tk (mkToks en K T P E) (k2 + m)) ⟨#[46]⟩ = false) := hg2
          simp only at hg1
          clear hx hg2 hle
          go_wp2_with fail
          refine (zzIsDot_c _ w3.heap.size 0 en (w3.heap.size + 1) 0 en en K T P E hn hn1 R9.kinds R9.texts ((k2 : Int) + m) (by omega)).mono ?_
          rintro e w13 ⟨rfl, rfl⟩
          rw [show ((k2 : Int) + m).toNat = k2 + m by omega, tokAt_in (by rw [HLN.out]; exact hk2), HG.out]
          go_wp2_with fail
          go_ret
          refine ⟨?_, HB9.out⟩
          simp
        · simp only at hle
          clear hx
          obtain rfl : code = ⟨#[52, 50, 54, 48, 49]⟩ := HCD.out.symm
          obtain rfl : posn = P (k2 + m) + 1 := HPN.out.symm
          have hp1 := R9.poss (k2 + m) hk2
          rw [Nat.zero_add] at hp1
          obtain ⟨b1, b2⟩ := HP.out (k2 + m) hk2
          go_wp2_with fail
          go_ret
          refine ⟨?_, HB9.out⟩
          simp
          try omega

end Go.Proofs.Qxb6616070aFmt
