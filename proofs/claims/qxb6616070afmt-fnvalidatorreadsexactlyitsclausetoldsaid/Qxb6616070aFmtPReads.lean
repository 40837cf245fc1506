/-
  THE FIRST LAW's OWN WALK.
-/
import Derived.Test.Qxb6616070aFmtPAns
namespace Go.Proofs.Qxb6616070aFmt
open Go.RowKit Go.Extern.Stop Go.Stop Go.Extern

set_option maxRecDepth 100000 in
set_option maxHeartbeats 4000000 in
theorem reads_c (F : Interp) (w : World) (hF : F.answers w.tape) (mb : Nat) (hr : ResIn w mb) (src : ByteArray) (ka xa qa ea : Option Addr) (kn kc xn xc qn qc en ec : Nat) (i : Int) (K : Nat → Int) (T : Nat → ByteArray) (P E : Nat → Int)
    (hc : Came w ka xa qa ea kn xn qn en K T P E) :
    Calls Tryf.prog 3 #[.string src, .slice ka kn kc, .slice xa xn xc, .slice qa qn qc, .slice ea en ec, .int .i64 i] w
      fun e w' => e = .returned (.bool true) ∧ Below w.heap.size w w' := by
  go_enter Tryf.func3, Tryf.ntmps3
  go_wp2_with fail
  refine (bytes7 _ src ka xa qa ea kn kc xn xc qn qc en ec i T (by exact hc.strs)).mono ?_
  rintro e w1 ⟨b1, rfl, hb1, hy1⟩
  have HB1 : Hid (Below w.heap.size w w1) := hb1
  have HC1 : Came w1 ka xa qa ea kn xn qn en K T P E := hc.below hb1
  clear hb1 hc
  cases b1
  · clear hy1
    go_wp2_with fail
    go_ret
    exact ⟨rfl, HB1.out⟩
  have hsm := hy1 rfl
  clear hy1
  go_wp2_with fail
  refine (tooBig_c _ src ka xa qa ea kn kc xn xc qn qc en ec T hsm (by exact HC1.strs)).mono ?_
  rintro e w2 ⟨b2, rfl, hb2, _⟩
  have HB2 : Hid (Below w.heap.size w w2) := HB1.out.trans (hb2.mono HB1.out.size)
  have HC2 : Came w2 ka xa qa ea kn xn qn en K T P E := HC1.below hb2
  clear hb2 HC1 HB1
  cases b2
  case true =>
    go_wp2_with fail
    go_ret
    exact ⟨rfl, HB2.out⟩
  go_wp2_with fail
  by_cases hgood : 0 < kn ∧ xn = kn ∧ qn = kn ∧ en = kn
  case neg =>
    refine (streamOK_bad _ src ka xa qa ea kn kc xn xc qn qc en ec i hgood).mono ?_
    rintro e w3 ⟨rfl, rfl⟩
    go_wp2_with fail
    go_ret
    exact ⟨rfl, HB2.out⟩
  obtain ⟨hn, rfl, rfl, rfl⟩ := hgood
  obtain ⟨kb, ko, rfl, hk, bk⟩ := HC2.kinds hn
  obtain ⟨xb, xo, rfl, hx, bx⟩ := HC2.texts hn
  obtain ⟨qb, qo, rfl, hq, bq⟩ := HC2.poss hn
  obtain ⟨eb, eo, rfl, he, be⟩ := HC2.ends hn
  refine (streamOK_run _ src kb ko kc xb xo xc qb qo qc eb eo ec _ K P E i hn hsm.kinds hk hq he bk bq be).mono ?_
  rintro e w3 ⟨b3, rfl, hb3, hy3⟩
  have HB3 : Hid (Below w.heap.size w w3) := HB2.out.trans (hb3.mono HB2.out.size)
  have hk3 := hk.below hb3 bk
  have hx3 := hx.below hb3 bx
  have hq3 := hq.below hb3 bq
  have he3 := he.below hb3 be
  have bk3 := Nat.lt_of_lt_of_le bk hb3.size
  have bx3 := Nat.lt_of_lt_of_le bx hb3.size
  have bq3 := Nat.lt_of_lt_of_le bq hb3.size
  have be3 := Nat.lt_of_lt_of_le be hb3.size
  have hlow := HC2.low
  clear hb3 hk hx hq he bk bx bq be HC2 HB2
  cases b3
  · clear hy3
    go_wp2_with fail
    go_ret
    exact ⟨rfl, HB3.out⟩
  have hok := hy3 rfl
  clear hy3
  obtain ⟨m, rfl⟩ := Int.eq_ofNat_of_zero_le hok.lo
  have hm : m < en := by have := hok.hi; omega
  have htok : TokOK src (mkToks en K T P E) := tokOK_mk hsm hok hn hlow
  have hn1 := hsm.kinds
  clear hok hsm hlow
  have hm5 := make5 en (by omega)
  have hm9 := make9 en (by omega)
  have hm3 := make3 en (by omega)
  have hc1 := fun ty => run_copy_new (P := Tryf.prog) w3 22 ty 5 Tryf.underlying22 size5 (zeros (.int .u8 0) en) en (zeros_size _ _) kb ko kc (fun j => .int .u8 (K j)) bk3 hk3 (fun _ _ => rfl)
  have hc2 := fun ty => run_copy_new (P := Tryf.prog) (w3.alloc (kObj en K)) 23 ty 9 Tryf.underlying23 size9 (zeros (.string ⟨#[]⟩) en) en (zeros_size _ _) xb xo xc (fun j => .string (T j)) (by rw [szA]; omega) (hx3.below ((Below.refl _ w3).alloc (Nat.le_refl _) _) bx3) (fun _ _ => rfl)
  have hc3 := fun ty => run_copy_new (P := Tryf.prog) ((w3.alloc (kObj en K)).alloc (xObj en T)) 24 ty 3 Tryf.underlying24 size3 (zeros (.int .i64 0) en) en (zeros_size _ _) qb qo qc (fun j => .int .i64 (P j)) (by rw [szA, szA]; omega) (hq3.below (((Below.refl _ w3).alloc (Nat.le_refl _) _).alloc (by rw [szA]; omega) _) bq3) (fun _ _ => rfl)
  have hc4 := fun ty => run_copy_new (P := Tryf.prog) (((w3.alloc (kObj en K)).alloc (xObj en T)).alloc (qObj en P)) 24 ty 3 Tryf.underlying24 size3 (zeros (.int .i64 0) en) en (zeros_size _ _) eb eo ec (fun j => .int .i64 (E j)) (by rw [szA, szA, szA]; omega) (he3.below ((((Below.refl _ w3).alloc (Nat.le_refl _) _).alloc (by rw [szA]; omega) _).alloc (by rw [szA, szA]; omega) _) be3) (fun _ _ => rfl)
  simp only [szA] at hc2 hc3 hc4
  have hc1' : ∀ ty, (Builtin.copy_ #[22, 22] ty #[.slice (some ⟨w3.heap.size, 0, none⟩) en en, .slice (some ⟨kb, ko, none⟩) en kc]).run Tryf.prog (w3.alloc (.cells (zeros (.int .u8 0) en) 5)) = .ok (goInt en) (w3.alloc (kObj en K)) := hc1
  have hc2' : ∀ ty, (Builtin.copy_ #[23, 23] ty #[.slice (some ⟨w3.heap.size + 1, 0, none⟩) en en, .slice (some ⟨xb, xo, none⟩) en xc]).run Tryf.prog ((w3.alloc (kObj en K)).alloc (.cells (zeros (.string ⟨#[]⟩) en) 9)) = .ok (goInt en) ((w3.alloc (kObj en K)).alloc (xObj en T)) := hc2
  have hc3' : ∀ ty, (Builtin.copy_ #[24, 24] ty #[.slice (some ⟨w3.heap.size + 1 + 1, 0, none⟩) en en, .slice (some ⟨qb, qo, none⟩) en qc]).run Tryf.prog (((w3.alloc (kObj en K)).alloc (xObj en T)).alloc (.cells (zeros (.int .i64 0) en) 3)) = .ok (goInt en) (((w3.alloc (kObj en K)).alloc (xObj en T)).alloc (qObj en P)) := hc3
  have hc4' : ∀ ty, (Builtin.copy_ #[24, 24] ty #[.slice (some ⟨w3.heap.size + 1 + 1 + 1, 0, none⟩) en en, .slice (some ⟨eb, eo, none⟩) en ec]).run Tryf.prog ((((w3.alloc (kObj en K)).alloc (xObj en T)).alloc (qObj en P)).alloc (.cells (zeros (.int .i64 0) en) 3)) = .ok (goInt en) ((((w3.alloc (kObj en K)).alloc (xObj en T)).alloc (qObj en P)).alloc (qObj en E)) := hc4
  clear hc1 hc2 hc3 hc4 hk3 hx3 hq3 he3 bk3 bx3 bq3 be3
  go_wp2_with fail
  clear hc1' hc2' hc3' hc4' hm5 hm9 hm3
  have R4 := copied_row w3 en K T P E
  have B4 := copied_below w3 en K T P E
  have ht4 := R4.top
  refine (newParser_c (copied w3 en K T P E) src w3.heap.size 0 en (w3.heap.size + 1) 0 en (w3.heap.size + 1 + 1) 0 en (w3.heap.size + 1 + 1 + 1) 0 en en m K T P E htok hm R4.kinds R4.texts R4.poss R4.ends (by omega) (by omega) (by omega) (by omega)).mono ?_
  rintro e w5 ⟨pb, rfl, hpb, hA5, hb5⟩
  have HB5 : Hid (Below w.heap.size w w5) := HB3.out.trans ((B4.trans (hb5.mono B4.size)).mono HB3.out.size)
  have R5 := R4.below hb5
  have hF5 : F.answers w5.tape := by rw [HB5.out.tape]; exact hF
  have hr5 : ResIn w5 mb := hr.below HB5.out
  have hp3 : pb ≠ 3 := by have := hr.gin; have := HB3.out.size; omega
  have hpm : pb ≠ mb := by have := hr.min; have := HB3.out.size; omega
  generalize (copied w3 en K T P E).heap.size = tb at hA5 hpb ht4
  clear B4 R4 hb5
  go_wp2_with fail
  refine (zzValidator_c F _ (by exact hF5) pb tb mb src _ m (by exact hA5) (by exact hr5) hp3 hpm).mono ?_
  rintro e w6 ⟨rfl, hA6, hN6⟩
  obtain ⟨⟨er, k⟩, hv⟩ : ∃ r, validRun (mkToks en K T P E) m = r := ⟨_, rfl⟩
  rw [hv] at hA6 ⊢
  have HV : Hid (validRun (mkToks en K T P E) m = (er, k)) := hv
  have R6 := R5.near hN6 (by omega)
  have HB6 : Hid (Below w.heap.size w w6) := ⟨hN6.os.trans HB5.out.os, hN6.tape.trans HB5.out.tape, hN6.output.trans HB5.out.output, Nat.le_trans HB5.out.size hN6.size, fun k hk => (hN6.block k (Nat.lt_of_lt_of_le hk HB5.out.size) (by have := HB3.out.size; omega)).trans (HB5.out.block k hk)⟩
  have hF6 : F.answers w6.tape := by rw [HB6.out.tape]; exact hF
  have hr6 : ResIn w6 mb := hr.below HB6.out
  have hlen := mkToks_length en K T P E
  have hk : k < en := by have := hA6.place; rwa [hlen] at this
  have hp : 0 ≤ P k ∧ P k ≤ 1048576 := by
    have := htok.span k (by rw [hlen]; exact hk)
    rw [tk_mk hk] at this
    have h2 := htok.srcShort
    simp only at this
    omega
  obtain ⟨code, posn, hparts, hc⟩ : ∃ code posn, partsOf (mkToks en K T P E) (er, k) = .tuple #[.bool er, .string code, .int .i64 posn] ∧ (er = true → code = ⟨#[52, 50, 54, 48, 49]⟩ ∧ posn = P k + 1) := by
    unfold partsOf
    simp only [tk_mk hk]
    cases er
    · exact ⟨_, _, rfl, fun h => by cases h⟩
    · exact ⟨_, _, rfl, fun _ => ⟨rfl, rfl⟩⟩
  rw [hparts]
  have ans : Calls Tryf.prog 13 #[.slice (some ⟨w3.heap.size, 0, none⟩) en en, .slice (some ⟨w3.heap.size + 1, 0, none⟩) en en, .slice (some ⟨w3.heap.size + 1 + 1, 0, none⟩) en en, .int .i64 m, .bool er, .string code, .int .i64 posn, .int .i64 k] w6
      fun e w' => e = .returned (.bool true) ∧ w' = w6 := by
    cases hno : isWd (tk (mkToks en K T P E) m) wNo
    · cases hva : isWd (tk (mkToks en K T P E) m) wValidator
      · have hx := valid_else hno hva
        rw [HV.out] at hx
        simp only [Prod.mk.injEq] at hx
        obtain ⟨rfl, rfl⟩ := hx
        exact answer_else w6 _ en k en en en K T P E code posn hn1 hm R6 hno hva
      · have hx := valid_val hva
        have hC := any_clause (mkToks en K T P E) m
        rw [← hx, HV.out] at hC
        exact answer_val w6 _ en m k en en en K T P E er code posn hn1 hm hk R6 hno hva hC hc hp
    · have hm1 : m + 1 < en := by
        simp only [isWd, Bool.and_eq_true, beq_iff_eq, tk_mk hm] at hno
        have := htok.eof m (by rw [hlen]; exact hm)
        rw [tk_mk hm, hlen] at this
        simp only at this
        omega
      have hx := valid_no hno
      rw [HV.out] at hx
      exact answer_no w6 _ en m k en en en K T P E er code posn hn1 hm hk R6 hno hm1 hx hc hp
  have ANS : Hid (Calls Tryf.prog 13 #[.slice (some ⟨w3.heap.size, 0, none⟩) en en, .slice (some ⟨w3.heap.size + 1, 0, none⟩) en en, .slice (some ⟨w3.heap.size + 1 + 1, 0, none⟩) en en, .int .i64 m, .bool er, .string code, .int .i64 posn, .int .i64 k] w6
      fun e w' => e = .returned (.bool true) ∧ w' = w6) := ans
  have hmk : er = false → m ≤ k := fun h => by
    subst h
    cases hno : isWd (tk (mkToks en K T P E) m) wNo
    · cases hva : isWd (tk (mkToks en K T P E) m) wValidator
      · have hx := valid_else hno hva
        rw [HV.out] at hx
        simp only [Prod.mk.injEq] at hx
        omega
      · have hx := valid_val hva
        have hC := (any_clause (mkToks en K T P E) m).far
        rw [← hx, HV.out] at hC
        simp only at hC
        omega
    · have hx := valid_no hno
      rw [HV.out] at hx
      split at hx <;> simp only [Prod.mk.injEq] at hx <;> omega
  clear hv ans hparts hc hp hN6 R5 hA5 HB5 hF5 hr5 hlen
  go_wp2_with fail
  refine (parserAt_c _ pb tb src _ k (by exact hA6)).mono ?_
  rintro e w7 ⟨rfl, hw⟩
  have hw' := hw.symm
  subst hw'
  clear hw
  go_wp2_with fail
  refine ANS.out.mono ?_
  rintro e w7 ⟨rfl, hw⟩
  have hw' := hw.symm
  subst hw'
  clear hw ANS
  cases er
  case true =>
    go_wp2_with fail
    go_ret
    exact ⟨rfl, HB6.out⟩
  have hmk' := hmk rfl
  clear hmk
  go_wp2_with fail
  refine (cutAt_c _ w3.heap.size en k en en en en K T P E hn1 hk (by exact R6)).mono ?_
  rintro e w8 ⟨rfl, R8, hb8⟩
  have HB8 : Hid (Below w.heap.size w w8) := HB6.out.trans (hb8.mono HB6.out.size)
  have ht8 := R8.top
  have huok := tokOK_cut htok hk
  have CU := cut_mk (n := en) K T P E hk
  have hv2 := CU.valid HV.out
  have HV2 : Hid (validRun (mkToks (k + 1) (cutK K k) (cutT T k) (cutP P k) (cutE E P k)) m = (false, k)) := hv2
  have h68 := HB6.out.size
  clear hv2 CU hb8 R6 HB6 hA6 hF6 hr6 HV
  generalize cutK K k = K2 at *
  generalize cutT T k = T2 at *
  generalize cutP P k = P2 at *
  generalize cutE E P k = E2 at *
  go_wp2_with fail
  refine (newParser_c w8 src w6.heap.size 0 (k + 1) (w6.heap.size + 1) 0 (k + 1) (w6.heap.size + 1 + 1) 0 (k + 1) (w6.heap.size + 1 + 1 + 1) 0 (k + 1) (k + 1) m K2 T2 P2 E2 huok (by omega) R8.kinds R8.texts R8.poss R8.ends (by omega) (by omega) (by omega) (by omega)).mono ?_
  rintro e w9 ⟨qb, rfl, hqb, hA9, hb9⟩
  have HB9 : Hid (Below w.heap.size w w9) := HB8.out.trans (hb9.mono HB8.out.size)
  have hF9 : F.answers w9.tape := by rw [HB9.out.tape]; exact hF
  have hr9 : ResIn w9 mb := hr.below HB9.out
  have h8 := HB8.out.size
  have hq3 : qb ≠ 3 := by have := hr.gin; omega
  have hqm : qb ≠ mb := by have := hr.min; omega
  clear hb9 R8 HB8
  go_wp2_with fail
  refine (zzValidator_c F _ (by exact hF9) qb _ mb src _ m (by exact hA9) (by exact hr9) hq3 hqm).mono ?_
  rintro e w10 ⟨rfl, hA10, hN10⟩
  rw [HV2.out] at hA10 ⊢
  have HB10 : Hid (Below w.heap.size w w10) := ⟨hN10.os.trans HB9.out.os, hN10.tape.trans HB9.out.tape, hN10.output.trans HB9.out.output, Nat.le_trans HB9.out.size hN10.size, fun k hk => (hN10.block k (Nat.lt_of_lt_of_le hk HB9.out.size) (by omega)).trans (HB9.out.block k hk)⟩
  clear hN10 HB9 hF9 hr9 hA9
  rw [show partsOf (mkToks (k + 1) K2 T2 P2 E2) (false, k) = .tuple #[.bool false, .string ⟨#[]⟩, .int .i64 0] from rfl]
  go_wp2_with fail
  refine (parserAt_c _ qb _ src _ k (by exact hA10)).mono ?_
  rintro e w11 ⟨rfl, hw⟩
  have hw' := hw.symm
  subst hw'
  clear hw hA10
  go_wp2_with fail
  go_ret
  exact ⟨by simp, HB10.out⟩

end Go.Proofs.Qxb6616070aFmt
