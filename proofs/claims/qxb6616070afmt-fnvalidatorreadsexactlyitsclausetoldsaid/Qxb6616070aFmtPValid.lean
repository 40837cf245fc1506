/-
  expectKeyword at one word; validator; ZZvalidator; ZZparserAt.
-/
import Derived.Test.Qxb6616070aFmtPAny
namespace Go.Proofs.Qxb6616070aFmt
open Go.RowKit Go.Extern.Stop Go.Stop Go.Extern

set_option maxRecDepth 100000 in
set_option maxHeartbeats 800000 in
theorem expect_no (F : Interp) (w : World) (hF : F.answers w.tape) (pb tb sb : Nat) (src : ByteArray) (ts : List Tok) (i : Nat) (h : AtTok w pb tb src ts i) (kw : ByteArray) (hs : w.cell? ⟨sb, 0, none⟩ = some (.string kw)) (hw : isWd (tk ts i) kw = false) :
    Calls Tryf.prog 38 #[.pointer (some ⟨pb, 0, none⟩), .slice (some ⟨sb, 0, none⟩) 1 1] w fun e w' => ∃ g, e = .returned (.iface 72 (.pointer (some ⟨g, 0, none⟩))) ∧ Failed w w' g (tk ts i).pos := by
  go_enter Tryf.func38, Tryf.ntmps38
  go_wp2_with fail
  go_loopw [9] (fun v wr => v = .int .i64 0 ∧ wr = w) (fun _ _ => 0)
  case atStart => exact ⟨rfl, rfl⟩
  case round =>
    obtain ⟨rfl, rfl⟩ := hrel
    go_wp2_with fail
    refine (keyword_no _ pb tb src ts i (by exact h) kw hw).mono ?_
    rintro e w1 ⟨rfl, hb⟩
    have HB : Hid (Below wr.heap.size wr w1) := hb
    have HA : AtTok w1 pb tb src ts i := h.below hb
    have hF1 : F.answers w1.tape := by rw [hb.tape]; exact hF
    clear hb
    go_wp2_with fail
    refine (unexpected_c F _ (by exact hF1) pb tb src ts i (by exact HA)).mono ?_
    rintro e w2 ⟨g, rfl, hE⟩
    have HE : Hid (Failed wr w2 g (tk ts i).pos) := hE.after HB.out
    clear hE
    go_wp2_with fail
    go_ret
    exact ⟨g, rfl, HE.out⟩

set_option maxRecDepth 100000 in
set_option maxHeartbeats 800000 in
theorem expect_yes (w : World) (pb tb sb : Nat) (src : ByteArray) (ts : List Tok) (i : Nat) (h : AtTok w pb tb src ts i) (kw : ByteArray) (hs : w.cell? ⟨sb, 0, none⟩ = some (.string kw)) (hw : isWd (tk ts i) kw = true) :
    Calls Tryf.prog 38 #[.pointer (some ⟨pb, 0, none⟩), .slice (some ⟨sb, 0, none⟩) 1 1] w fun e w' => e = .returned .nilIface ∧ AtTok w' pb tb src ts (i + 1) ∧ Near pb w w' := by
  go_enter Tryf.func38, Tryf.ntmps38
  go_wp2_with fail
  go_loopw [9] (fun v wr => (v = .int .i64 0 ∧ wr = w) ∨ (v = .int .i64 1 ∧ AtTok wr pb tb src ts (i + 1) ∧ Near pb w wr)) (fun v _ => 1 - (intOf v).toNat)
  case atStart => exact .inl ⟨rfl, rfl⟩
  case round =>
    rcases hrel with ⟨rfl, rfl⟩ | ⟨rfl, hA, hN⟩
    · go_wp2_with fail
      refine (keyword_yes _ pb tb src ts i (by exact h) kw hw).mono ?_
      rintro e w1 ⟨rfl, hA, hN⟩
      have HA : Hid (AtTok w1 pb tb src ts (i + 1) ∧ Near pb wr w1) := ⟨hA, hN⟩
      clear hA hN
      go_wp2_with fail
      go_roundw
      case rel => exact .inr ⟨rfl, HA.out⟩
      case measure => simp [intOf]
    · have HA : Hid (AtTok wr pb tb src ts (i + 1) ∧ Near pb w wr) := ⟨hA, hN⟩
      clear hA hN
      go_wp2_with fail
      go_ret
      exact ⟨rfl, HA.out⟩

/-- VALIDATOR. -/
def wValidator : ByteArray := ⟨#[118, 97, 108, 105, 100, 97, 116, 111, 114]⟩
/-- NO. -/
def wNo : ByteArray := ⟨#[110, 111]⟩

/-- The clause from token i on: did it fail, and where does the parser stand? -/
def validRun (ts : List Tok) (i : Nat) : Bool × Nat :=
  if isWd (tk ts i) wValidator then anyRun ts (i + 1)
  else if isWd (tk ts i) wNo then (if isWd (tk ts (i + 1)) wValidator then (false, i + 2) else (true, i + 1))
  else (false, i)

set_option maxRecDepth 100000 in
set_option maxHeartbeats 800000 in
theorem validator_c (F : Interp) (w : World) (hF : F.answers w.tape) (pb tb mb : Nat) (src : ByteArray) (ts : List Tok) (i : Nat) (h : AtTok w pb tb src ts i) (hr : ResIn w mb) (hp3 : pb ≠ 3) (hpm : pb ≠ mb) :
    Calls Tryf.prog 27 #[.pointer (some ⟨pb, 0, none⟩)] w fun e w' => Ended w pb tb src ts (validRun ts i) e w' := by
  unfold validRun
  cases hv : isWd (tk ts i) wValidator
  · cases hn : isWd (tk ts i) wNo
    · go_enter Tryf.func27, Tryf.ntmps27
      go_wp2_with fail
      refine (keyword_no _ pb tb src ts i (by exact h) wValidator hv).mono ?_
      rintro e w1 ⟨rfl, hb⟩
      have HA : AtTok w1 pb tb src ts i := h.below hb
      have HN : Hid (Near pb w w1) := Near.of_below hb h.pin
      clear hb
      go_wp2_with fail
      refine (keyword_no _ pb tb src ts i (by exact HA) wNo hn).mono ?_
      rintro e w2 ⟨rfl, hb2⟩
      have HA2 : Hid (AtTok w2 pb tb src ts i) := HA.below hb2
      have HN2 : Hid (Near pb w w2) := HN.out.trans (Near.of_below hb2 HA.pin)
      clear hb2 HA HN
      go_wp2_with fail
      go_ret
      exact ⟨HA2.out, HN2.out, fun _ => rfl, fun hx => by cases hx⟩
    · go_enter Tryf.func27, Tryf.ntmps27
      go_wp2_with fail
      refine (keyword_no _ pb tb src ts i (by exact h) wValidator hv).mono ?_
      rintro e w1 ⟨rfl, hb⟩
      have HA : AtTok w1 pb tb src ts i := h.below hb
      have HN : Hid (Near pb w w1) := Near.of_below hb h.pin
      have HB : Hid (Below w.heap.size w w1) := hb
      clear hb
      go_wp2_with fail
      refine (keyword_yes _ pb tb src ts i (by exact HA) wNo hn).mono ?_
      rintro e w2 ⟨rfl, hA2, hN2⟩
      have HN2 : Hid (Near pb w w2) := HN.out.trans hN2
      have hF2 : F.answers w2.tape := by rw [HN2.out.tape]; exact hF
      clear hN2 HA HN HB
      cases hx : isWd (tk ts (i + 1)) wValidator
      · go_wp2_with fail
        have hb := (Below.refl w2.heap.size w2).alloc (Nat.le_refl _) (.cells #[.string ⟨#[118, 97, 108, 105, 100, 97, 116, 111, 114]⟩] 9)
        refine (expect_no F _ (by exact hF2) pb tb w2.heap.size src ts (i + 1) (hA2.below hb) wValidator (by simp [wValidator]) hx).mono ?_
        rintro e w3 ⟨g, rfl, hE⟩
        have HE : Hid (Failed w2 w3 g (tk ts (i + 1)).pos) := hE.after hb
        clear hE hb
        go_wp2_with fail
        go_ret
        exact ⟨hA2.below HE.out.below, HN2.out.trans (HE.out.near hA2.pin), (fun hx => by cases hx), fun _ => ⟨g, rfl, Nat.le_trans HN2.out.size HE.out.new, HE.out.err⟩⟩
      · go_wp2_with fail
        have hb := (Below.refl w2.heap.size w2).alloc (Nat.le_refl _) (.cells #[.string ⟨#[118, 97, 108, 105, 100, 97, 116, 111, 114]⟩] 9)
        refine (expect_yes _ pb tb w2.heap.size src ts (i + 1) (hA2.below hb) wValidator (by simp [wValidator]) hx).mono ?_
        rintro e w3 ⟨rfl, hA3, hN3⟩
        have HE : Hid (AtTok w3 pb tb src ts (i + 2) ∧ Near pb w w3) := ⟨hA3, HN2.out.trans ((Near.of_below hb hA2.pin).trans hN3)⟩
        clear hA3 hN3 hb
        go_wp2_with fail
        go_ret
        exact ⟨HE.out.1, HE.out.2, fun _ => rfl, fun hx => by cases hx⟩
  · go_enter Tryf.func27, Tryf.ntmps27
    go_wp2_with fail
    refine (keyword_yes _ pb tb src ts i (by exact h) wValidator hv).mono ?_
    rintro e w1 ⟨rfl, hA, hN⟩
    have hF1 : F.answers w1.tape := by rw [hN.tape]; exact hF
    have hr1 : ResIn w1 mb := hr.near hN hp3 hpm
    have HN : Hid (Near pb w w1) := hN
    clear hN
    go_wp2_with fail
    refine (handlerName_c F _ (by exact hF1) pb tb mb src ts (i + 1) (by exact hA) (by exact hr1)).mono ?_
    rintro e w2 hE
    have HE : Hid (Ended w pb tb src ts (anyRun ts (i + 1)) e w2) := ⟨hE.at_, HN.out.trans hE.near, hE.good, fun hx => by obtain ⟨g, h1, h2, h3⟩ := hE.bad hx; exact ⟨g, h1, Nat.le_trans HN.out.size h2, h3⟩⟩
    clear hE hr1 hA
    cases hx : (anyRun ts (i + 1)).1
    · obtain rfl := HE.out.good hx
      go_wp2_with fail
      go_ret
      exact HE.out
    · obtain ⟨g, rfl, _, _⟩ := HE.out.bad hx
      go_wp2_with fail
      go_ret
      exact HE.out

/-- How the exported reader has ended: the verdict, the code, the position. -/
def partsOf (ts : List Tok) (r : Bool × Nat) : Value :=
  if r.1 then .tuple #[.bool true, .string ⟨#[52, 50, 54, 48, 49]⟩, .int .i64 ((tk ts r.2).pos + 1)] else .tuple #[.bool false, .string ⟨#[]⟩, .int .i64 0]

theorem errParts_nil (w : World) : Calls Tryf.prog 26 #[.nilIface] w fun e w' => e = .returned (.tuple #[.bool false, .string ⟨#[]⟩, .int .i64 0]) ∧ w' = w := by
  go_enter Tryf.func26, Tryf.ntmps26
  go_wp2_with fail
  go_ret3
  exact ⟨rfl, rfl⟩

theorem assert72 (v : Value) (xT : TypeId) (w : World) : (Instr.typeAssert (.iface 72 v) xT 72 true).run Tryf.prog w = .ok (.tuple #[v, .bool true]) w := by kernel_rfl

theorem errParts_err (w : World) (g : Nat) (pos : Int) (h : ErrAt w g pos) :
    Calls Tryf.prog 26 #[.iface 72 (.pointer (some ⟨g, 0, none⟩))] w fun e w' => e = .returned (.tuple #[.bool true, .string ⟨#[52, 50, 54, 48, 49]⟩, .int .i64 (pos + 1)]) ∧ Below w.heap.size w w' := by
  have h1 := h.code
  have h5 := h.pos
  have ha := assert72
  go_enter Tryf.func26, Tryf.ntmps26
  go_wp2_with fail
  go_quiet (fail)
  go_wp2
  go_ret3
  exact ⟨rfl, below_drewN (Below.refl _ _) _⟩

set_option maxHeartbeats 800000 in
theorem zzValidator_c (F : Interp) (w : World) (hF : F.answers w.tape) (pb tb mb : Nat) (src : ByteArray) (ts : List Tok) (i : Nat) (h : AtTok w pb tb src ts i) (hr : ResIn w mb) (hp3 : pb ≠ 3) (hpm : pb ≠ mb) :
    Calls Tryf.prog 11 #[.pointer (some ⟨pb, 0, none⟩)] w fun e w' => e = .returned (partsOf ts (validRun ts i)) ∧ AtTok w' pb tb src ts (validRun ts i).2 ∧ Near pb w w' := by
  go_enter Tryf.func11, Tryf.ntmps11
  go_wp2_with fail
  refine (validator_c F _ (by exact hF) pb tb mb src ts i (by exact h) (by exact hr) hp3 hpm).mono ?_
  rintro e w1 hE
  have HE : Hid (AtTok w1 pb tb src ts (validRun ts i).2 ∧ Near pb w w1) := ⟨hE.at_, hE.near⟩
  cases hx : (validRun ts i).1
  · obtain rfl := hE.good hx
    clear hE
    go_wp2_with fail
    refine (errParts_nil _).mono ?_
    rintro e w2 ⟨rfl, rfl⟩
    go_wp2_with fail
    go_ret3
    exact ⟨by simp [partsOf, hx], HE.out⟩
  · obtain ⟨g, rfl, _, hErr⟩ := hE.bad hx
    clear hE
    go_wp2_with fail
    refine (errParts_err _ g _ hErr).mono ?_
    rintro e w2 ⟨rfl, hb⟩
    have HE2 : Hid (AtTok w2 pb tb src ts (validRun ts i).2 ∧ Near pb w w2) := ⟨HE.out.1.below hb, HE.out.2.trans (Near.of_below hb HE.out.1.pin)⟩
    clear hb HE hErr
    go_wp2_with fail
    go_ret3
    exact ⟨by simp [partsOf, hx], HE2.out⟩

theorem parserAt_c (w : World) (pb tb : Nat) (src : ByteArray) (ts : List Tok) (i : Nat) (h : AtTok w pb tb src ts i) :
    Calls Tryf.prog 12 #[.pointer (some ⟨pb, 0, none⟩)] w fun e w' => e = .returned (.int .i64 i) ∧ w' = w := by
  have h2 := h.cat
  go_enter Tryf.func12, Tryf.ntmps12
  go_wp2
  go_ret
  exact ⟨rfl, rfl⟩

end Go.Proofs.Qxb6616070aFmt
