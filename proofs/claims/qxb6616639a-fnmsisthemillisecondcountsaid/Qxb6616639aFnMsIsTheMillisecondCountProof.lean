/-
  THE LAW 'FnMsIsTheMillisecondCount': the walk, and the row.
-/
import Derived.Test.Qxb6616639aWalk
import Derived.WalkKit
import Derived.ProofKit
import Derived.OpenShut
import Derived.ShutString
namespace Go.Proofs.Qxb6616639a.fnMsIsTheMillisecondCount
open Go.Proofs.Qxb6616639a
open Go.ChangeShapes Go.WideShapes Go.ChangeAt Go.RowKit
open Go.ChangeMaps (open_string shut_string)
set_option linter.unusedVariables false      -- a walk need not use every 'w<i>' (that an integer argument fits its kind)

theorem own : ownKnob Try.prog.godebug = none := by kernel_rfl

/-! THE WALK -/
theorem walk (a0 : Int) (w0 : (Lit.int .i64 a0).wf = true) (w : World) :
    Calls Try.prog 3 #[.int .i64 a0] w fun e w' => e = .returned (.bool true) ∧ Grown w w' := by
  have hb : -9223372036854775808 ≤ a0 ∧ a0 ≤ 9223372036854775807 := by
    simpa [Lit.wf, IntKind.min, IntKind.max, IntKind.signed, IntKind.bits] using w0
  by_cases hg : a0.natAbs ≤ 9007199254740992
  · obtain ⟨W, hW, p1, p2, p3⟩ := law1 a0 hg
    have g1 : ¬ 9007199254740992 < a0 := by omega
    have g2 : ¬ a0 < -9007199254740992 := by omega
    by_cases h0 : a0.tmod 1000000 = 0
    · have f := p1 h0
      clear p1 p2 p3
      go_enter Try.func3, Try.ntmps3
      go_wp2_with fail
      refine (zzms_c a0 W hW _).mono ?_
      rintro e w1 ⟨rfl, rfl⟩
      go_wp2
      all_goals (go_ret; exact ⟨by simp, Grown.refl _⟩)
    · by_cases h1 : 0 < a0
      · obtain ⟨f, f'⟩ := p2 h0 h1
        clear p1 p2 p3
        have e1 : a0.tdiv 1000000 = a0 / 1000000 := Int.tdiv_eq_ediv_of_nonneg (by omega)
        have e2 : a0.tmod 1000000 = a0 % 1000000 := Int.tmod_eq_emod_of_nonneg (by omega)
        rw [e1] at f f'
        rw [wrap_small _ (by omega)] at f'
        rw [e2] at h0
        clear e1 e2
        go_enter Try.func3, Try.ntmps3
        go_wp2_with fail
        refine (zzms_c a0 W hW _).mono ?_
        rintro e w1 ⟨rfl, rfl⟩
        go_wp2
        all_goals (go_ret; exact ⟨by first | rfl | simp [f'], Grown.refl _⟩)
      · obtain ⟨f, f'⟩ := p3 h0 h1
        clear p1 p2 p3
        go_enter Try.func3, Try.ntmps3
        go_wp2_with fail
        refine (zzms_c a0 W hW _).mono ?_
        rintro e w1 ⟨rfl, rfl⟩
        go_wp2
        all_goals (go_ret; exact ⟨by first | rfl | simp [f'], Grown.refl _⟩)
  · go_enter Try.func3, Try.ntmps3
    go_wp2_with fail
    all_goals first
      | (go_ret; exact ⟨rfl, Grown.refl _⟩)
      | (exfalso; omega)

/-! THE ROW -/
set_option maxRecDepth 100000 in
theorem lifted (os : Os) (started : os.Started) (H : Type) (enc : TypeId × Value → H) :
    ReturnsInHanded {} Try.checked os 3 .any (Rows.fnMsIsTheMillisecondCountSpec.pre6 enc Try.prog Try.f3 Rows.fnMsIsTheMillisecondCountRow.domain false) (Rows.fnMsIsTheMillisecondCountSpec.post enc Try.prog Try.f3 false true false false) := by
  refine returnsInHanded_of_change (C := Try.checked) own started (by kernel_rfl) Try.func3
    (ChangeSpec.witness6 (enc := enc) (C := Try.checked) false ⟨#[], #[.int .i64 0], []⟩ 8 (by kernel_rfl) (by kernel_rfl) (by kernel_rfl) (by kernel_rfl)) ?_
  intro W base args ds gs before hval0 hW hcnd _
  have hval : ∀ (j : Nat) t v, Try.f3.params[j]? = some t → args[j]? = some v → Value.okWide Try.prog W .any base t v := hval0
  have hW' := hW
  obtain ⟨p, q, hA0, hV, rfl, hfz, hnd⟩ := hW
  have hA : DataW.TrodAll enc Try.prog W 0 (fun _ => true) true Try.f3.params.toList args.toList ds p := hA0
  rw [Try.params3] at hA hval
  obtain ⟨v0, vs0, d0, ds0, p0, q0, hargs, rfl, rfl, h0, r0⟩ := trodAll_cons hA
  obtain ⟨rfl, rfl, rfl⟩ := trodAll_nil r0
  obtain rfl : args = #[v0] := by cases args; simp_all
  obtain ⟨rfl, rfl⟩ := trodVars_none hV
  obtain ⟨a0, rfl, rfl, rfl, w0⟩ := open_int Try.underlying2 (hval 0 2 v0 rfl rfl) h0
  clear hA0 hval0
  simp only [List.append_nil] at hW'
  refine (walk a0 w0 W).mono fun e W' ⟨he, hg⟩ => ?_
  subst he
  exact ⟨_, rfl, post_of_same (pa := []) (pv := []) hW' (fun _ _ _ => (trodAll_cons_mk (shut_bool Try.underlying4 _) trodAll_mk0)) (fun sp _ => (trodAll_cons_mk (shut_int Try.underlying2 w0) trodAll_mk0)) (fun _ _ => rfl) rfl
    (hg.frame _) hg.2.1 (ok_one (by kernel_rfl) rfl (okWide_bool_mk Try.underlying4 _))⟩

theorem over : Rows.fnMsIsTheMillisecondCountRow.holds Try.pinned (OpenSpec.ofChange Rows.fnMsIsTheMillisecondCountSpec) :=
  OpenClaim.holds_of_wide 3 Try.f3 rfl rfl rfl rfl rfl rfl rfl ⟨rfl, rfl, rfl, rfl, rfl⟩ rfl rfl rfl rfl rfl (by kernel_rfl) Try.func3 (by kernel_rfl)
    (of_decide_eq_true (by kernel_rfl)) (by unfold Func.isWrapper; first | (rw [if_pos (by decide +kernel)]; kernel_rfl) | (rw [if_neg (by decide +kernel)]; exact ⟨rfl, rfl⟩))
    (fun os started H enc _ => lifted os started H enc)

theorem proved : Rows.FnMsIsTheMillisecondCountSaid :=
  over
end Go.Proofs.Qxb6616639a.fnMsIsTheMillisecondCount

namespace Go.Proofs.Qxb6616639a
/-- The statement. -/
theorem ms_count_proved : Rows.FnMsIsTheMillisecondCountSaid := fnMsIsTheMillisecondCount.proved
#print axioms ms_count_proved
end Go.Proofs.Qxb6616639a
