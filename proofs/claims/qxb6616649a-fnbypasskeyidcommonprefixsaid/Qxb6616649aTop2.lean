/-
  THE SECOND LAW'S OWN WALK.
-/
import Derived.Test.Qxb6616649aTop
namespace Go.Proofs.Qxb6616649a
open Go.RowKit

set_option maxRecDepth 100000 in
set_option maxHeartbeats 1600000 in
theorem front_c (w : World) (f a b p : Option Addr) (fs xs ys ps : List Int) (cf ca cb cp : Nat) (s : Int) (t : Bool) (Hf : Came w f fs) (Ha : Came w a xs) (Hb : Came w b ys) (Hp : Came w p ps) :
    Calls Try.prog 4 #[.slice f fs.length cf, .slice a xs.length ca, .slice b ys.length cb, .slice p ps.length cp, .int .u32 s, .bool t] w
      fun e w' => e = .returned (.bool true) ∧ Below w.heap.size w w' := by
  by_cases hg : fs.length ≤ 131072 ∧ xs.length ≤ 131072 ∧ ys.length ≤ 131072 ∧ ps.length ≤ 131072
  · obtain ⟨g1, g2, g3, g4⟩ := hg
    have mf := make5 fs.length (by omega)
    have ma := make5 xs.length (by omega)
    have mb := make5 ys.length (by omega)
    have mp := make5 ps.length (by omega)
    go_enter Try.func4, Try.ntmps4
    go_wp2_with fail
    refine (bytes8 _ f a b p fs.length cf xs.length ca ys.length cb ps.length cp s t).mono ?_
    rintro e w1 ⟨b1, rfl, hw⟩
    have hw' := hw.symm
    subst hw'
    clear hw
    cases b1
    · go_wp2_with fail
      go_ret
      exact ⟨rfl, Below.refl _ _⟩
    go_upto_if 45 with fail
    go_cut [0, 13] from 44 (fun v _ wx => ∃ a' c', v = .slice a' fs.length c' ∧ Bs wx a' fs ∧ Below w.heap.size w wx)
    case first =>
      rcases Hf.cells with ⟨rfl, rfl⟩ | ⟨x, rfl, hc⟩
      · go_wp2_with fail
        go_meet
        exact ⟨_, _, rfl, Bs.none _, Below.refl _ _⟩
      · have hcp := copy5 fs x cf w hc
        have hs := Hf.small
        clear hc Hf
        go_wp2_with fail
        go_meet
        exact ⟨_, _, rfl, bs_new w hs, (Below.refl _ _).alloc (Nat.le_refl _) _⟩
    case rest =>
      obtain ⟨w2, hw⟩ : ∃ w2, w2 = wc := ⟨_, rfl⟩
      subst hw
      obtain ⟨f', cf', rfl, Bf, hbw⟩ := hcut
      replace Ha := Ha.below hbw
      replace Hb := Hb.below hbw
      replace Hp := Hp.below hbw
      have HB : Hid (Below w.heap.size w w2) := hbw
      clear hbw Hf mf
      go_upto_if 54 with fail
      go_cut [1, 14] from 53 (fun v _ wx => ∃ a' c', v = .slice a' xs.length c' ∧ Bs wx a' xs ∧ Below w2.heap.size w2 wx)
      case first =>
        rcases Ha.cells with ⟨rfl, rfl⟩ | ⟨x, rfl, hc⟩
        · go_wp2_with fail
          go_meet
          exact ⟨_, _, rfl, Bs.none _, Below.refl _ _⟩
        · have hcp := copy5 xs x ca w2 hc
          have hs := Ha.small
          clear hc Ha
          go_wp2_with fail
          go_meet
          exact ⟨_, _, rfl, bs_new w2 hs, (Below.refl _ _).alloc (Nat.le_refl _) _⟩
      case rest =>
        obtain ⟨w3, hw⟩ : ∃ w2, w2 = wc := ⟨_, rfl⟩
        subst hw
        obtain ⟨a', ca', rfl, Ba, hbw⟩ := hcut
        replace Hb := Hb.below hbw
        replace Hp := Hp.below hbw
        replace Bf := Bf.below hbw
        have HB' : Hid (Below w.heap.size w w3) := chain HB.out hbw
        clear HB
        have HB := HB'
        clear HB'
        clear hbw Ha ma
        go_upto_if 63 with fail
        go_cut [2, 15] from 62 (fun v _ wx => ∃ a' c', v = .slice a' ys.length c' ∧ Bs wx a' ys ∧ Below w3.heap.size w3 wx)
        case first =>
          rcases Hb.cells with ⟨rfl, rfl⟩ | ⟨x, rfl, hc⟩
          · go_wp2_with fail
            go_meet
            exact ⟨_, _, rfl, Bs.none _, Below.refl _ _⟩
          · have hcp := copy5 ys x cb w3 hc
            have hs := Hb.small
            clear hc Hb
            go_wp2_with fail
            go_meet
            exact ⟨_, _, rfl, bs_new w3 hs, (Below.refl _ _).alloc (Nat.le_refl _) _⟩
        case rest =>
          obtain ⟨w4, hw⟩ : ∃ w2, w2 = wc := ⟨_, rfl⟩
          subst hw
          obtain ⟨b', cb', rfl, Bb, hbw⟩ := hcut
          replace Hp := Hp.below hbw
          replace Bf := Bf.below hbw
          replace Ba := Ba.below hbw
          have HB' : Hid (Below w.heap.size w w4) := chain HB.out hbw
          clear HB
          have HB := HB'
          clear HB'
          clear hbw Hb mb
          go_upto_if 72 with fail
          go_cut [3, 16] from 71 (fun v _ wx => ∃ a' c', v = .slice a' ps.length c' ∧ Bs wx a' ps ∧ Below w4.heap.size w4 wx)
          case first =>
            rcases Hp.cells with ⟨rfl, rfl⟩ | ⟨x, rfl, hc⟩
            · go_wp2_with fail
              go_meet
              exact ⟨_, _, rfl, Bs.none _, Below.refl _ _⟩
            · have hcp := copy5 ps x cp w4 hc
              have hs := Hp.small
              clear hc Hp
              go_wp2_with fail
              go_meet
              exact ⟨_, _, rfl, bs_new w4 hs, (Below.refl _ _).alloc (Nat.le_refl _) _⟩
          case rest =>
            obtain ⟨w5, hw⟩ : ∃ w2, w2 = wc := ⟨_, rfl⟩
            subst hw
            obtain ⟨p', cp', rfl, Bp, hbw⟩ := hcut
            replace Bf := Bf.below hbw
            replace Ba := Ba.below hbw
            replace Bb := Bb.below hbw
            have HB' : Hid (Below w.heap.size w w5) := chain HB.out hbw
            clear HB
            have HB := HB'
            clear HB'
            clear hbw Hp mp
            clear Bp
            go_wp2_with fail
            refine (concat_c _ f' a' fs xs cf' ca' (by exact Bf) (by exact Ba) (by omega) (by omega)).mono ?_
            rintro e w6 ⟨g, rfl, Bx, hb6⟩
            replace Bf := Bf.below hb6
            replace Ba := Ba.below hb6
            replace Bb := Bb.below hb6
            have HB6 : Hid (Below w.heap.size w w6) := chain HB.out hb6
            clear hb6 HB
            obtain ⟨us, hu⟩ : ∃ us, fs ++ xs = us := ⟨_, rfl⟩
            rw [hu] at Bx ⊢
            have HU : Hid (fs ++ xs = us) := hu
            clear hu
            go_wp2_with fail
            refine (concat_c _ f' b' fs ys cf' cb' (by exact Bf) (by exact Bb) (by omega) (by omega)).mono ?_
            rintro e w7 ⟨h, rfl, By, hb7⟩
            replace Bf := Bf.below hb7
            replace Ba := Ba.below hb7
            replace Bb := Bb.below hb7
            replace Bx := Bx.below hb7
            have HB7 : Hid (Below w.heap.size w w7) := chain HB6.out hb7
            clear hb7 HB6
            obtain ⟨vs, hv⟩ : ∃ vs, fs ++ ys = vs := ⟨_, rfl⟩
            rw [hv] at By ⊢
            have HV : Hid (fs ++ ys = vs) := hv
            clear hv
            go_wp2_with fail
            refine (by_c _ (some ⟨g, 0, none⟩) (some ⟨h, 0, none⟩) p' us vs us.length vs.length ps.length cp' s t (by exact Bx) (by exact By)).mono ?_
            rintro e w8 ⟨rfl, hb8⟩
            replace Bf := Bf.below hb8
            replace Ba := Ba.below hb8
            replace Bb := Bb.below hb8
            replace By := By.below hb8
            have HB8 : Hid (Below w.heap.size w w8) := chain HB7.out hb8
            clear hb8 HB7 Bx
            rw [← HU.out, ← HV.out, cmpI_front, HV.out]
            go_wp2_with fail
            refine (by_c _ a' b' p' xs ys ca' cb' ps.length cp' s t (by exact Ba) (by exact Bb)).mono ?_
            rintro e w9 ⟨rfl, hb9⟩
            replace Bf := Bf.below hb9
            replace By := By.below hb9
            have HB9 : Hid (Below w.heap.size w w9) := chain HB8.out hb9
            clear hb9 HB8 Ba Bb
            generalize cmpI xs ys = R
            go_wp2_with fail
            refine (by_c _ f' (some ⟨h, 0, none⟩) p' fs vs cf' vs.length ps.length cp' s t (by exact Bf) (by exact By)).mono ?_
            rintro e w10 ⟨rfl, hb10⟩
            replace Bf := Bf.below hb10
            replace By := By.below hb10
            have HB10 : Hid (Below w.heap.size w w10) := chain HB9.out hb10
            clear hb10 HB9
            have hs : ∃ S : Int, cmpI fs vs = S ∧ cmpI vs fs = -S ∧ ((0 < ys.length ∧ S = -1) ∨ (ys.length = 0 ∧ S = 0)) := by
              rw [cmpI_swap fs vs, ← HV.out, cmpI_short fs ys]
              refine ⟨_, rfl, rfl, ?_⟩
              by_cases hy : 0 < ys.length
              · exact .inl ⟨hy, if_pos hy⟩
              · exact .inr ⟨by omega, if_neg hy⟩
            obtain ⟨S, e1, e2, e3⟩ := hs
            rw [e1]
            have HL : Hid (cmpI vs fs = -S) := e2
            have HY : Hid ((0 < ys.length ∧ S = -1) ∨ (ys.length = 0 ∧ S = 0)) := e3
            clear e1 e2 e3
            go_wp2_with fail
            refine (by_c _ (some ⟨h, 0, none⟩) f' p' vs fs vs.length cf' ps.length cp' s t (by exact By) (by exact Bf)).mono ?_
            rintro e w11 ⟨rfl, hb11⟩
            have HB11 : Hid (Below w.heap.size w w11) := chain HB10.out hb11
            clear hb11 HB10 Bf By
            rw [HL.out]
            clear HL HU HV
            rcases HY.out with ⟨hy, rfl⟩ | ⟨hy, rfl⟩
            · clear HY
              go_wp2_with fail
              go_ret
              exact ⟨rfl, HB11.out⟩
            · clear HY
              go_wp2_with fail
              go_ret
              exact ⟨rfl, HB11.out⟩
  · go_enter Try.func4, Try.ntmps4
    go_wp2_with fail
    refine (bytes8 _ f a b p fs.length cf xs.length ca ys.length cb ps.length cp s t).mono ?_
    rintro e w1 ⟨b1, rfl, hw⟩
    have hw' := hw.symm
    subst hw'
    clear hw Hf Ha Hb Hp
    by_cases h1 : fs.length ≤ 131072
    · by_cases h2 : xs.length ≤ 131072
      · by_cases h3 : ys.length ≤ 131072
        · have h4 : ¬ ps.length ≤ 131072 := fun h => hg ⟨h1, h2, h3, h⟩
          clear hg
          cases b1
          all_goals (go_wp2_with fail; go_ret; exact ⟨rfl, Below.refl _ _⟩)
        · clear hg
          cases b1
          all_goals (go_wp2_with fail; go_ret; exact ⟨rfl, Below.refl _ _⟩)
      · clear hg
        cases b1
        all_goals (go_wp2_with fail; go_ret; exact ⟨rfl, Below.refl _ _⟩)
    · clear hg
      cases b1
      all_goals (go_wp2_with fail; go_ret; exact ⟨rfl, Below.refl _ _⟩)

end Go.Proofs.Qxb6616649a
