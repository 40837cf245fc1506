/-
  THE TWO LAWS' OWN WALKS.
-/
import Derived.Test.Qxb6616649aCopy
import Derived.Deep.Cut
import Derived.Deep.CutRange
namespace Go.Proofs.Qxb6616649a
open Go.RowKit

/-- A slice of bytes that came in. -/
structure Came (w : World) (a : Option Addr) (xs : List Int) : Prop where
  small : Small xs
  cells : (a = none ∧ xs = []) ∨ ∃ x, a = some x ∧ ∀ j, j < xs.length → w.cell? (x.add j) = some (.int .u8 (xs.getD j 0))

theorem Came.below {w w' : World} {a : Option Addr} {xs : List Int} (h : Came w a xs) (hb : Below w.heap.size w w') : Came w' a xs :=
  ⟨h.small, by
    rcases h.cells with h1 | ⟨x, e, hc⟩
    · exact .inl h1
    · exact .inr ⟨x, e, fun j hj => (hb.cell (block_of_cell (hc j hj))).trans (hc j hj)⟩⟩

theorem chain {w u v : World} (h : Below w.heap.size w u) (k : Below u.heap.size u v) : Below w.heap.size w v := h.trans (k.mono h.size)

set_option maxRecDepth 100000 in
set_option maxHeartbeats 1600000 in
theorem orders_c (w : World) (a p b : Option Addr) (xs ps ys : List Int) (c q d : Nat) (s : Int) (t : Bool) (Ha : Came w a xs) (Hp : Came w p ps) (Hb : Came w b ys) :
    Calls Try.prog 3 #[.slice a xs.length c, .slice p ps.length q, .int .u32 s, .bool t, .slice b ys.length d] w
      fun e w' => e = .returned (.bool true) ∧ Below w.heap.size w w' := by
  by_cases hg : xs.length ≤ 262144 ∧ ps.length ≤ 262144 ∧ ys.length ≤ 262144
  · obtain ⟨g1, g2, g3⟩ := hg
    have ma := make5 xs.length (by omega)
    have mp := make5 ps.length (by omega)
    have mb := make5 ys.length (by omega)
    go_enter Try.func3, Try.ntmps3
    go_wp2_with fail
    refine (bytes5 _ a p b xs.length c ps.length q ys.length d s t).mono ?_
    rintro e w1 ⟨b1, rfl, hw⟩
    have hw' := hw.symm
    subst hw'
    clear hw
    cases b1
    · go_wp2_with fail
      go_ret
      exact ⟨rfl, Below.refl _ _⟩
    go_upto_if 34 with fail
    go_cut [0, 11] from 33 (fun v _ wx => ∃ a' c', v = .slice a' xs.length c' ∧ Bs wx a' xs ∧ Below w.heap.size w wx)
    case first =>
      rcases Ha.cells with ⟨rfl, rfl⟩ | ⟨x, rfl, hc⟩
      · go_wp2_with fail
        go_meet
        exact ⟨_, _, rfl, Bs.none _, Below.refl _ _⟩
      · have hcp := copy5 xs x c w hc
        have hs := Ha.small
        clear hc Ha
        go_wp2_with fail
        go_meet
        exact ⟨_, _, rfl, bs_new w hs, (Below.refl _ _).alloc (Nat.le_refl _) _⟩
    case rest =>
      obtain ⟨w2, hw⟩ : ∃ w2, w2 = wc := ⟨_, rfl⟩
      subst hw
      obtain ⟨a', c', rfl, Ba, hbw⟩ := hcut
      replace Hp := Hp.below hbw
      replace Hb := Hb.below hbw
      have HB : Hid (Below w.heap.size w w2) := hbw
      clear hbw Ha ma
      go_upto_if 43 with fail
      go_cut [1, 12] from 42 (fun v _ wx => ∃ a' c', v = .slice a' ps.length c' ∧ Bs wx a' ps ∧ Below w2.heap.size w2 wx)
      case first =>
        rcases Hp.cells with ⟨rfl, rfl⟩ | ⟨x, rfl, hc⟩
        · go_wp2_with fail
          go_meet
          exact ⟨_, _, rfl, Bs.none _, Below.refl _ _⟩
        · have hcp := copy5 ps x q w2 hc
          have hs := Hp.small
          clear hc Hp
          go_wp2_with fail
          go_meet
          exact ⟨_, _, rfl, bs_new w2 hs, (Below.refl _ _).alloc (Nat.le_refl _) _⟩
      case rest =>
        obtain ⟨w3, hw⟩ : ∃ w2, w2 = wc := ⟨_, rfl⟩
        subst hw
        obtain ⟨p', q', rfl, Bp, hbw⟩ := hcut
        replace Hb := Hb.below hbw
        replace Ba := Ba.below hbw
        have HB' : Hid (Below w.heap.size w w3) := chain HB.out hbw
        clear HB
        have HB := HB'
        clear HB'
        clear hbw Hp mp
        go_upto_if 52 with fail
        go_cut [4, 13] from 51 (fun v _ wx => ∃ a' c', v = .slice a' ys.length c' ∧ Bs wx a' ys ∧ Below w3.heap.size w3 wx)
        case first =>
          rcases Hb.cells with ⟨rfl, rfl⟩ | ⟨x, rfl, hc⟩
          · go_wp2_with fail
            go_meet
            exact ⟨_, _, rfl, Bs.none _, Below.refl _ _⟩
          · have hcp := copy5 ys x d w3 hc
            have hs := Hb.small
            clear hc Hb
            go_wp2_with fail
            go_meet
            exact ⟨_, _, rfl, bs_new w3 hs, (Below.refl _ _).alloc (Nat.le_refl _) _⟩
        case rest =>
          obtain ⟨w4, hw⟩ : ∃ w2, w2 = wc := ⟨_, rfl⟩
          subst hw
          obtain ⟨b', d', rfl, Bb, hbw⟩ := hcut
          replace Ba := Ba.below hbw
          replace Bp := Bp.below hbw
          have HB' : Hid (Below w.heap.size w w4) := chain HB.out hbw
          clear HB
          have HB := HB'
          clear HB'
          clear hbw Hb mb
          go_wp2_with fail
          refine (zzcompare_c _ a' b' xs ys c' d' (by exact Ba) (by exact Bb) (by omega) (by omega)).mono ?_
          rintro e w5 ⟨rfl, hb5⟩
          have Ba5 := Ba.below hb5
          have Bb5 := Bb.below hb5
          have HB5 : Hid (Below w.heap.size w w5) := chain HB.out hb5
          clear Ba Bb hb5 HB
          go_wp2_with fail
          refine (by_c _ a' b' p' xs ys c' d' ps.length q' s t (by exact Ba5) (by exact Bb5)).mono ?_
          rintro e w6 ⟨rfl, hb6⟩
          have Ba6 := Ba5.below hb6
          have Bb6 := Bb5.below hb6
          have HB6 : Hid (Below w.heap.size w w6) := chain HB5.out hb6
          clear Ba5 Bb5 hb6 HB5
          go_wp2_with fail
          refine (by_c _ b' a' p' ys xs d' c' ps.length q' s t (by exact Bb6) (by exact Ba6)).mono ?_
          rintro e w7 ⟨rfl, hb7⟩
          have HB7 : Hid (Below w.heap.size w w7) := chain HB6.out hb7
          clear Ba6 Bb6 hb7 HB6
          rw [cmpI_swap xs ys]
          have hR := cmpI_bound xs ys
          generalize cmpI xs ys = R at hR ⊢
          rcases hR with rfl | rfl | rfl
          · go_wp2_with fail
            go_ret
            exact ⟨rfl, HB7.out⟩
          · go_wp2_with fail
            go_ret
            exact ⟨rfl, HB7.out⟩
          · go_wp2_with fail
            go_ret
            exact ⟨rfl, HB7.out⟩
  · go_enter Try.func3, Try.ntmps3
    go_wp2_with fail
    refine (bytes5 _ a p b xs.length c ps.length q ys.length d s t).mono ?_
    rintro e w1 ⟨b1, rfl, hw⟩
    have hw' := hw.symm
    subst hw'
    clear hw Ha Hp Hb
    by_cases h1 : xs.length ≤ 262144
    · by_cases h2 : ps.length ≤ 262144
      · have h3 : ¬ ys.length ≤ 262144 := fun h => hg ⟨h1, h2, h⟩
        clear hg
        cases b1
        all_goals (go_wp2_with fail; go_ret; exact ⟨rfl, Below.refl _ _⟩)
      · clear hg
        cases b1
        all_goals (go_wp2_with fail; go_ret; exact ⟨rfl, Below.refl _ _⟩)
    · clear hg
      cases b1
      all_goals (go_wp2_with fail; go_ret; exact ⟨rfl, Below.refl _ _⟩)

end Go.Proofs.Qxb6616649a
