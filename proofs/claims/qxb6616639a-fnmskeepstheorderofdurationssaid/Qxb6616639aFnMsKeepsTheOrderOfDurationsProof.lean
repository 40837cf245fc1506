/-
  THE LAW 'FnMsKeepsTheOrderOfDurations': the walk, and the row.
-/
import Derived.Test.Qxb6616639aWalk
import Derived.WalkKit
import Derived.ProofKit
import Derived.OpenShut
import Derived.ShutString
namespace Go.Proofs.Qxb6616639a.fnMsKeepsTheOrderOfDurations
open Go.Proofs.Qxb6616639a
open Go.ChangeShapes Go.WideShapes Go.ChangeAt Go.RowKit
open Go.ChangeMaps (open_string shut_string)
set_option linter.unusedSimpArgs false
set_option linter.unusedVariables false      -- a walk need not use every 'w<i>' (that an integer argument fits its kind)

theorem own : ownKnob Try.prog.godebug = none := by kernel_rfl

/-! THE WALK -/
theorem walk (a0 : Int) (a1 : Int) (w0 : (Lit.int .i64 a0).wf = true) (w1 : (Lit.int .i64 a1).wf = true) (w : World) :
    Calls Try.prog 4 #[.int .i64 a0, .int .i64 a1] w fun e w' => e = .returned (.bool true) ∧ Grown w w' := by
  by_cases hg : a0.natAbs ≤ 2251799813685248 ∧ a1.natAbs ≤ 2251799813685248
  · obtain ⟨ha, hb⟩ := hg
    obtain ⟨x, hx, _⟩ := law1 a0 (by omega)
    obtain ⟨y, hy, _⟩ := law1 a1 (by omega)
    obtain ⟨d, hd, d1, d2⟩ := law2_diff a0 ha x hx
    have hsub : ∀ t w, (binOp .sub t (.float .f64 x) (.float .f64 (floatOfInt .f64 (a0.tdiv 1000000)))).run Try.prog w = .ok (.float .f64 d) w := fun t w => run_float_arith w .sub t .f64 _ _ d hd
    have g1 : ¬ 2251799813685248 < a0 := by omega
    have g2 : ¬ a0 < -2251799813685248 := by omega
    have g3 : ¬ 2251799813685248 < a1 := by omega
    have g4 : ¬ a1 < -2251799813685248 := by omega
    have hcmp : (FloatKind.f64.format.order x y == some .lt) = decide (a0 < a1) ∧ (FloatKind.f64.format.order x y == some .eq) = (a0 == a1) := by
      rcases Int.lt_trichotomy a0 a1 with h | h | h
      · have o := (law2_order a0 a1 ha hb h x y hx hy).1
        rw [o]
        have : ¬ a0 = a1 := by omega
        simp [h, this]
      · subst h
        obtain rfl : x = y := Option.some.inj (hx.symm.trans hy)
        have o := law2_same a0 ha x hx
        rw [o]
        simp
      · have o := (law2_order a1 a0 hb ha h y x hy hx).2
        rw [o]
        have h1 : ¬ a0 = a1 := by omega
        have h2 : ¬ a0 < a1 := by omega
        simp [h1, h2]
    obtain ⟨c1, c2⟩ := hcmp
    by_cases hm : a0.tmod 1000000 = 0 ∧ a1.tmod 1000000 = 0
    · obtain ⟨m1, m2⟩ := hm
      obtain ⟨z, r, hz, hr, o⟩ := law2_add a0 a1 ha hb m1 m2 x y hx hy
      rw [wrap_small _ (by omega)] at hz
      have hadd : ∀ t w, (binOp .add t (.float .f64 x) (.float .f64 y)).run Try.prog w = .ok (.float .f64 r) w := fun t w => run_float_arith w .add t .f64 _ _ r hr
      go_enter Try.func4, Try.ntmps4
      go_wp2_with fail
      refine (zzms_c a0 x hx _).mono ?_
      rintro e w1 ⟨rfl, rfl⟩
      go_wp2_with fail
      refine (zzms_c a1 y hy _).mono ?_
      rintro e w1 ⟨rfl, rfl⟩
      go_wp2_with fail
      refine (zzms_c (a0 + a1) z hz _).mono ?_
      rintro e w1 ⟨rfl, rfl⟩
      go_wp2_with (simp only [hadd, hsub])
      all_goals (go_ret; exact ⟨by simp [d1, d2], Grown.refl _⟩)
    · go_enter Try.func4, Try.ntmps4
      go_wp2_with fail
      refine (zzms_c a0 x hx _).mono ?_
      rintro e w1 ⟨rfl, rfl⟩
      go_wp2_with fail
      refine (zzms_c a1 y hy _).mono ?_
      rintro e w1 ⟨rfl, rfl⟩
      go_wp2_with (simp only [hsub])
      all_goals first
        | (go_ret; exact ⟨by simp [d1, d2], Grown.refl _⟩)
        | (exfalso; simp_all; done)
  · go_enter Try.func4, Try.ntmps4
    go_wp2_with fail
    all_goals first
      | (go_ret; exact ⟨rfl, Grown.refl _⟩)
      | (exfalso; omega)

/-! THE ROW -/
set_option maxRecDepth 100000 in
theorem lifted (os : Os) (started : os.Started) (H : Type) (enc : TypeId × Value → H) :
    ReturnsInHanded {} Try.checked os 4 .any (Rows.fnMsKeepsTheOrderOfDurationsSpec.pre6 enc Try.prog Try.f4 Rows.fnMsKeepsTheOrderOfDurationsRow.domain false) (Rows.fnMsKeepsTheOrderOfDurationsSpec.post enc Try.prog Try.f4 false true false false) := by
  refine returnsInHanded_of_change (C := Try.checked) own started (by kernel_rfl) Try.func4
    (ChangeSpec.witness6 (enc := enc) (C := Try.checked) false ⟨#[], #[.int .i64 0, .int .i64 0], []⟩ 8 (by kernel_rfl) (by kernel_rfl) (by kernel_rfl) (by kernel_rfl)) ?_
  intro W base args ds gs before hval0 hW hcnd _
  have hval : ∀ (j : Nat) t v, Try.f4.params[j]? = some t → args[j]? = some v → Value.okWide Try.prog W .any base t v := hval0
  have hW' := hW
  obtain ⟨p, q, hA0, hV, rfl, hfz, hnd⟩ := hW
  have hA : DataW.TrodAll enc Try.prog W 0 (fun _ => true) true Try.f4.params.toList args.toList ds p := hA0
  rw [Try.params4] at hA hval
  obtain ⟨v0, vs0, d0, ds0, p0, q0, hargs, rfl, rfl, h0, r0⟩ := trodAll_cons hA
  obtain ⟨v1, vs1, d1, ds1, p1, q1, rfl, rfl, rfl, h1, r1⟩ := trodAll_cons r0
  obtain ⟨rfl, rfl, rfl⟩ := trodAll_nil r1
  obtain rfl : args = #[v0, v1] := by cases args; simp_all
  obtain ⟨rfl, rfl⟩ := trodVars_none hV
  obtain ⟨a0, rfl, rfl, rfl, w0⟩ := open_int Try.underlying2 (hval 0 2 v0 rfl rfl) h0
  obtain ⟨a1, rfl, rfl, rfl, w1⟩ := open_int Try.underlying2 (hval 1 2 v1 rfl rfl) h1
  clear hA0 hval0
  simp only [List.append_nil] at hW'
  refine (walk a0 a1 w0 w1 W).mono fun e W' ⟨he, hg⟩ => ?_
  subst he
  exact ⟨_, rfl, post_of_same (pa := []) (pv := []) hW' (fun _ _ _ => (trodAll_cons_mk (shut_bool Try.underlying4 _) trodAll_mk0)) (fun sp _ => (trodAll_cons_mk (shut_int Try.underlying2 w0) (trodAll_cons_mk (shut_int Try.underlying2 w1) trodAll_mk0))) (fun _ _ => rfl) rfl
    (hg.frame _) hg.2.1 (ok_one (by kernel_rfl) rfl (okWide_bool_mk Try.underlying4 _))⟩

theorem over : Rows.fnMsKeepsTheOrderOfDurationsRow.holds Try.pinned (OpenSpec.ofChange Rows.fnMsKeepsTheOrderOfDurationsSpec) :=
  OpenClaim.holds_of_wide 4 Try.f4 rfl rfl rfl rfl rfl rfl rfl ⟨rfl, rfl, rfl, rfl, rfl⟩ rfl rfl rfl rfl rfl (by kernel_rfl) Try.func4 (by kernel_rfl)
    (of_decide_eq_true (by kernel_rfl)) (by unfold Func.isWrapper; first | (rw [if_pos (by decide +kernel)]; kernel_rfl) | (rw [if_neg (by decide +kernel)]; exact ⟨rfl, rfl⟩))
    (fun os started H enc _ => lifted os started H enc)

theorem proved : Rows.FnMsKeepsTheOrderOfDurationsSaid :=
  over
end Go.Proofs.Qxb6616639a.fnMsKeepsTheOrderOfDurations

namespace Go.Proofs.Qxb6616639a
/-- The statement. -/
theorem ms_order_proved : Rows.FnMsKeepsTheOrderOfDurationsSaid := fnMsKeepsTheOrderOfDurations.proved
#print axioms ms_order_proved
end Go.Proofs.Qxb6616639a
