/-
  THE LAWS' GUARDS: zzBytes (both), zzStreamTooBig: they answer, and change nothing.
-/
import Derived.Test.Qxb6616070aFmtPLaw
namespace Go.Proofs.Qxb6616070aFmt
open Go.RowKit

/-- What the guard on the sum of all lengths tells where it says yes. -/
structure SmallAll (src : ByteArray) (kn xn qn en : Nat) (T : Nat → ByteArray) : Prop where
  src : src.size ≤ 1048576
  kinds : kn ≤ 1048576
  texts : xn ≤ 1048576
  poss : qn ≤ 1048576
  ends : en ≤ 1048576
  each : ∀ j, j < xn → (T j).size ≤ 1048576

/-- A guard has answered; nothing that was there has turned; where it said yes, so it is. -/
def Answered (w : World) (yes : Prop) (e : Ending) (w' : World) : Prop := ∃ b : Bool, e = .returned (.bool b) ∧ Below w.heap.size w w' ∧ (b = true → yes)

theorem Answered.no {w w' : World} {yes : Prop} (h : Below w.heap.size w w') : Answered w yes (.returned (.bool false)) w' := ⟨false, rfl, h, fun h => by cases h⟩
theorem Answered.yes {w w' : World} {yes : Prop} (h : Below w.heap.size w w') (hy : yes) : Answered w yes (.returned (.bool true)) w' := ⟨true, rfl, h, fun _ => hy⟩

set_option maxRecDepth 100000 in
set_option maxHeartbeats 1600000 in
theorem bytes15 (w : World) (src : ByteArray) (ka xa qa ea : Option Addr) (kn kc xn xc qn qc en ec : Nat) (i : Int) (T : Nat → ByteArray)
    (hx : 0 < xn → ∃ xb xo, xa = some ⟨xb, xo, none⟩ ∧ StrsIn w xb xo xn T) :
    Calls Tryf.prog 15 #[.string src, .slice ka kn kc, .slice xa xn xc, .slice qa qn qc, .slice ea en ec, .int .i64 i] w
      fun e w' => Answered w (SmallAll src kn xn qn en T) e w' := by
  go_enter Tryf.func15, Tryf.ntmps15
  go_wp2_with fail
  all_goals try (go_ret; exact .no (Below.refl _ _))
  go_loop [13, 14] (fun t v => ∃ k s : Nat, v = .int .i64 k ∧ k ≤ xn ∧ t = .int .i64 s ∧ s ≤ 1048576 ∧ ∀ j, j < k → (T j).size ≤ 1048576) (fun _ v => xn - (intOf v).toNat)
  case atStart => exact ⟨0, src.size + kn + xn, rfl, by omega, by simp, by omega, fun j hj => by omega⟩
  case round =>
    obtain ⟨k, s, rfl, hk, rfl, hs, hT⟩ := hrel
    have HT : Hid (∀ j, j < k → (T j).size ≤ 1048576) := hT
    clear hT
    by_cases hlt : k < xn
    · obtain ⟨xb, xo, rfl, hS⟩ := hx (by omega)
      have c0 := hS k hlt
      clear hS hx
      go_wp2_with fail
      all_goals try (go_ret; exact .no (Below.refl _ _))
      go_round
      case rel =>
        refine ⟨k + 1, s + (T k).size, by simp, hlt, by simp, by omega, fun j hj => ?_⟩
        by_cases e : j = k
        · subst e; omega
        · exact HT.out j (by omega)
      case measure => simp [intOf]; omega
    · have hkx : k = xn := by omega
      subst hkx
      go_wp2_with fail
      all_goals try (go_ret; exact .no (Below.refl _ _))
      go_ret
      refine .yes (Below.refl _ _) ⟨?_, ?_, ?_, ?_, ?_, HT.out⟩ <;> omega

set_option maxRecDepth 100000 in
set_option maxHeartbeats 1600000 in
theorem bytes7 (w : World) (src : ByteArray) (ka xa qa ea : Option Addr) (kn kc xn xc qn qc en ec : Nat) (i : Int) (T : Nat → ByteArray)
    (hx : 0 < xn → ∃ xb xo, xa = some ⟨xb, xo, none⟩ ∧ StrsIn w xb xo xn T) :
    Calls Tryf.prog 7 #[.string src, .slice ka kn kc, .slice xa xn xc, .slice qa qn qc, .slice ea en ec, .int .i64 i] w
      fun e w' => Answered w (SmallAll src kn xn qn en T) e w' := by
  go_enter Tryf.func7, Tryf.ntmps7
  go_wp2_with fail
  all_goals try (go_ret; exact .no (Below.refl _ _))
  go_loop [13, 14] (fun t v => ∃ k s : Nat, v = .int .i64 k ∧ k ≤ xn ∧ t = .int .i64 s ∧ s ≤ 1048576 ∧ ∀ j, j < k → (T j).size ≤ 1048576) (fun _ v => xn - (intOf v).toNat)
  case atStart => exact ⟨0, src.size + kn + xn, rfl, by omega, by simp, by omega, fun j hj => by omega⟩
  case round =>
    obtain ⟨k, s, rfl, hk, rfl, hs, hT⟩ := hrel
    have HT : Hid (∀ j, j < k → (T j).size ≤ 1048576) := hT
    clear hT
    by_cases hlt : k < xn
    · obtain ⟨xb, xo, rfl, hS⟩ := hx (by omega)
      have c0 := hS k hlt
      clear hS hx
      go_wp2_with fail
      all_goals try (go_ret; exact .no (Below.refl _ _))
      go_round
      case rel =>
        refine ⟨k + 1, s + (T k).size, by simp, hlt, by simp, by omega, fun j hj => ?_⟩
        by_cases e : j = k
        · subst e; omega
        · exact HT.out j (by omega)
      case measure => simp [intOf]; omega
    · have hkx : k = xn := by omega
      subst hkx
      go_wp2_with fail
      all_goals try (go_ret; exact .no (Below.refl _ _))
      go_ret
      refine .yes (Below.refl _ _) ⟨?_, ?_, ?_, ?_, ?_, HT.out⟩ <;> omega

set_option maxRecDepth 100000 in
set_option maxHeartbeats 1600000 in
/-- The guard on sizes: it answers. -/
theorem tooBig_c (w : World) (src : ByteArray) (ka xa qa ea : Option Addr) (kn kc xn xc qn qc en ec : Nat) (T : Nat → ByteArray) (hsm : SmallAll src kn xn qn en T)
    (hx : 0 < xn → ∃ xb xo, xa = some ⟨xb, xo, none⟩ ∧ StrsIn w xb xo xn T) :
    Calls Tryf.prog 8 #[.string src, .slice ka kn kc, .slice xa xn xc, .slice qa qn qc, .slice ea en ec] w
      fun e w' => Answered w True e w' := by
  have s0 := hsm.src
  have s1 := hsm.kinds
  have s2 := hsm.texts
  have s3 := hsm.poss
  have s4 := hsm.ends
  by_cases hg : kn ≤ 65536 ∧ xn ≤ 65536 ∧ qn ≤ 65536 ∧ en ≤ 65536
  · obtain ⟨g1, g2, g3, g4⟩ := hg
    go_enter Tryf.func8, Tryf.ntmps8
    go_wp2_with fail
    all_goals try (go_ret; first | exact .no (Below.refl _ _) | exact .yes (Below.refl _ _) trivial)
    go_loop [11, 12] (fun t v => ∃ k s : Nat, v = .int .i64 k ∧ k ≤ xn ∧ t = .int .i64 s ∧ s ≤ 1048576) (fun _ v => xn - (intOf v).toNat)
    case atStart => exact ⟨0, src.size + kn + 8 * qn + 8 * en + 16 * xn, rfl, by omega, by simp, by omega⟩
    case round =>
      obtain ⟨k, s, rfl, hk, rfl, hs⟩ := hrel
      by_cases hlt : k < xn
      · obtain ⟨xb, xo, rfl, hS⟩ := hx (by omega)
        have c0 := hS k hlt
        have t0 := hsm.each k hlt
        clear hS hx hsm
        go_wp2_with fail
        all_goals try (go_ret; first | exact .no (Below.refl _ _) | exact .yes (Below.refl _ _) trivial)
        go_round
        case rel => exact ⟨k + 1, s + (T k).size, by simp, hlt, by simp, by omega⟩
        case measure => simp [intOf]; omega
      · go_wp2_with fail
        go_ret
        exact .no (Below.refl _ _)
  · go_enter Tryf.func8, Tryf.ntmps8
    go_wp2_with fail
    all_goals (go_ret; first | exact .no (Below.refl _ _) | exact .yes (Below.refl _ _) trivial)

end Go.Proofs.Qxb6616070aFmt
