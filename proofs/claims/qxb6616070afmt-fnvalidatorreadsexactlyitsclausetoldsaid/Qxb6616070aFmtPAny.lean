/-
  anyName: a name, then dots and labels, as far as they go.
-/
import Derived.Test.Qxb6616070aFmtPNames2
namespace Go.Proofs.Qxb6616070aFmt
open Go.RowKit Go.Extern.Stop Go.Stop Go.Extern

/-- Dots and labels from token j on: did it fail, and where does the parser stand? -/
def dotRun (ts : List Tok) : Nat → Nat → Bool × Nat
  | 0, j => (false, j)
  | f + 1, j => if isPt (tk ts j) ⟨#[46]⟩ then (if isLb (tokAt ts (j + 1)) (tokAt ts (j + 2)) then dotRun ts f (j + 2) else (true, j + 1)) else (false, j)

/-- A name, then dots and labels. -/
def anyRun (ts : List Tok) (i : Nat) : Bool × Nat := if isNm (tokAt ts i) (tokAt ts (i + 1)) then dotRun ts ts.length (i + 1) else (true, i)

theorem dotRun_stop {ts : List Tok} {j : Nat} (f : Nat) (h : isPt (tk ts j) ⟨#[46]⟩ = false) : dotRun ts f j = (false, j) := by
  cases f <;> simp [dotRun, h]

theorem dotRun_bad {ts : List Tok} {j : Nat} (f : Nat) (h : isPt (tk ts j) ⟨#[46]⟩ = true) (hl : isLb (tokAt ts (j + 1)) (tokAt ts (j + 1 + 1)) = false) : dotRun ts (f + 1) j = (true, j + 1) := by
  rw [dotRun, if_pos h, if_neg (by rw [hl]; simp)]

theorem dotRun_step {ts : List Tok} {j : Nat} (f : Nat) (h : isPt (tk ts j) ⟨#[46]⟩ = true) (hl : isLb (tokAt ts (j + 1)) (tokAt ts (j + 1 + 1)) = true) : dotRun ts (f + 1) j = dotRun ts f (j + 2) := by
  rw [dotRun, if_pos h, if_pos hl]

/-- How a reader of names has ended. -/
structure Ended (w : World) (pb tb : Nat) (src : ByteArray) (ts : List Tok) (r : Bool × Nat) (e : Ending) (w' : World) : Prop where
  at_ : AtTok w' pb tb src ts r.2
  near : Near pb w w'
  good : r.1 = false → e = .returned .nilIface
  bad : r.1 = true → ∃ g, e = .returned (.iface 72 (.pointer (some ⟨g, 0, none⟩))) ∧ w.heap.size ≤ g ∧ ErrAt w' g (tk ts r.2).pos

theorem ErrAt.below {w w' : World} {b : Nat} {pos : Int} (h : ErrAt w b pos) (hb : Below w.heap.size w w') : ErrAt w' b pos :=
  ⟨Nat.lt_of_lt_of_le h.bin hb.size, by rw [hb.cell h.bin]; exact h.code, by rw [hb.cell h.bin]; exact h.pos⟩

/-- Where the parser stands, as a number (for a loop's measure). -/
def placeOf (w : World) (pb : Nat) : Nat := match w.cell? ⟨pb, 2, none⟩ with | some (.int _ n) => n.toNat | _ => 0

theorem placeOf_at {w : World} {pb tb : Nat} {src : ByteArray} {ts : List Tok} {i : Nat} (h : AtTok w pb tb src ts i) : placeOf w pb = i := by
  simp [placeOf, h.cat]

theorem Failed.near {w w' : World} {g : Nat} {pos : Int} (h : Failed w w' g pos) {pb : Nat} (hp : pb < w.heap.size) : Near pb w w' := Near.of_below h.below hp

set_option maxRecDepth 100000 in
set_option maxHeartbeats 800000 in
theorem anyName_bad (F : Interp) (w : World) (hF : F.answers w.tape) (pb tb mb : Nat) (src : ByteArray) (ts : List Tok) (i : Nat) (h : AtTok w pb tb src ts i) (hr : ResIn w mb) (hn : isNm (tokAt ts i) (tokAt ts (i + 1)) = false) :
    Calls Tryf.prog 50 #[.pointer (some ⟨pb, 0, none⟩)] w fun e w' => Ended w pb tb src ts (true, i) e w' := by
  go_enter Tryf.func50, Tryf.ntmps50
  go_wp2_with fail
  refine (name_no F _ (by exact hF) pb tb mb src ts i (by exact h) (by exact hr) hn).mono ?_
  rintro e w1 ⟨g, rfl, hE⟩
  have HE : Hid (Failed w w1 g (tk ts i).pos) := hE
  clear hE
  go_wp2_with fail
  go_ret
  have hE := HE.out
  have hb : Below w.heap.size w (w1.alloc (.cells #[.string ⟨#[]⟩, .int .i64 0] 98)) := hE.below.alloc hE.below.size _
  have hE2 : ErrAt (w1.alloc (.cells #[.string ⟨#[]⟩, .int .i64 0] 98)) g (tk ts i).pos := hE.err.below ((Below.refl _ w1).alloc (Nat.le_refl _) _)
  exact ⟨h.below hb, Near.of_below hb h.pin, (fun hx => by cases hx), fun _ => ⟨g, rfl, hE.new, hE2⟩⟩

set_option maxRecDepth 100000 in
set_option maxHeartbeats 800000 in
theorem anyName_good (F : Interp) (w : World) (hF : F.answers w.tape) (pb tb mb : Nat) (src : ByteArray) (ts : List Tok) (i : Nat) (h : AtTok w pb tb src ts i) (hr : ResIn w mb) (hn : isNm (tokAt ts i) (tokAt ts (i + 1)) = true) :
    Calls Tryf.prog 50 #[.pointer (some ⟨pb, 0, none⟩)] w fun e w' => Ended w pb tb src ts (dotRun ts ts.length (i + 1)) e w' := by
  go_enter Tryf.func50, Tryf.ntmps50
  go_wp2_with fail
  refine (name_yes _ pb tb mb src ts i (by exact h) (by exact hr) hn).mono ?_
  rintro e w1 ⟨rfl, hA1, hN1⟩
  have HN : Hid (Near pb w w1) := hN1
  have HA : Hid (AtTok w1 pb tb src ts (i + 1)) := hA1
  clear hA1 hN1
  go_wp2_with fail
  go_loopw [] (fun wr => ∃ f j, AtTok wr pb tb src ts j ∧ Near pb w wr ∧ ts.length ≤ j + f ∧ dotRun ts ts.length (i + 1) = dotRun ts f j) (fun wr => ts.length - placeOf wr pb)
  case atStart =>
    exact ⟨ts.length, i + 1, HA.out.below ((Below.refl _ w1).alloc (Nat.le_refl _) _), HN.out.alloc h.pin _, by omega, rfl⟩
  case round =>
    obtain ⟨f, j, hA, hN, hf, hd⟩ := hrel
    have HN2 : Hid (Near pb w wr) := hN
    have HD : Hid (dotRun ts ts.length (i + 1) = dotRun ts f j) := hd
    have HJ : Hid (placeOf wr pb = j) := placeOf_at hA
    have hjl := hA.place
    clear hN hd HN HA
    cases hp : isPt (tk ts j) ⟨#[46]⟩
    · go_wp2_with fail
      refine (punct_no _ pb tb src ts j (by exact hA) _ hp).mono ?_
      rintro e w2 ⟨rfl, hb⟩
      have HA2 : Hid (AtTok w2 pb tb src ts j ∧ Near pb w w2) := ⟨hA.below hb, HN2.out.trans (Near.of_below hb hA.pin)⟩
      clear hb hA
      go_wp2_with fail
      go_ret
      rw [HD.out, dotRun_stop f hp]
      exact ⟨HA2.out.1, HA2.out.2, fun _ => rfl, fun hx => by cases hx⟩
    · obtain ⟨f, rfl⟩ : ∃ f', f = f' + 1 := ⟨f - 1, by omega⟩
      go_wp2_with fail
      refine (punct_yes _ pb tb src ts j (by exact hA) _ hp).mono ?_
      rintro e w2 ⟨rfl, hA2, hN3⟩
      have hF2 : F.answers w2.tape := by rw [hN3.tape, HN2.out.tape]; exact hF
      have HN3 : Hid (Near pb w w2) := HN2.out.trans hN3
      clear hN3 hA HN2
      cases hl : isLb (tokAt ts (j + 1)) (tokAt ts (j + 1 + 1))
      · go_wp2_with fail
        refine (label_no F _ (by exact hF2) pb tb src ts (j + 1) (by exact hA2) hl).mono ?_
        rintro e w3 ⟨g, rfl, hE⟩
        simp only [Tok.val, noTok]
        have HE : Hid (Failed w2 w3 g (tk ts (j + 1)).pos) := hE
        clear hE
        go_wp2_with fail
        go_ret
        rw [HD.out, dotRun_bad f hp hl]
        have hE := HE.out
        have hb : Below w2.heap.size w2 (w3.alloc (.cells #[.int .u8 0, .string ⟨#[]⟩, .int .i64 0, .int .i64 0] 71)) := hE.below.alloc hE.below.size _
        have hE2 : ErrAt (w3.alloc (.cells #[.int .u8 0, .string ⟨#[]⟩, .int .i64 0, .int .i64 0] 71)) g (tk ts (j + 1)).pos := hE.err.below ((Below.refl _ w3).alloc (Nat.le_refl _) _)
        exact ⟨hA2.below hb, HN3.out.trans (Near.of_below hb hA2.pin), (fun hx => by cases hx), fun _ => ⟨g, rfl, Nat.le_trans HN3.out.size hE.new, hE2⟩⟩
      · go_wp2_with fail
        refine (label_yes _ pb tb src ts (j + 1) (by exact hA2) hl).mono ?_
        rintro e w3 ⟨rfl, hA3, hN4⟩
        simp only [Tok.val]
        have HA3 : Hid (AtTok w3 pb tb src ts (j + 1 + 1)) := hA3
        have HN4 : Hid (Near pb w w3) := HN3.out.trans hN4
        clear hA3 hN4 hA2 HN3
        go_wp2_with fail
        go_roundw
        case rel =>
          have hb := (Below.refl w3.heap.size w3).alloc (Nat.le_refl _) (.cells #[.int .u8 (tk ts (j + 1)).kind, .string (tk ts (j + 1)).text, .int .i64 (tk ts (j + 1)).pos, .int .i64 (tk ts (j + 1)).stop] 71)
          exact ⟨f, j + 2, HA3.out.below hb, HN4.out.alloc h.pin _, by omega, HD.out.trans (dotRun_step f hp hl)⟩
        case measure =>
          have hb := (Below.refl w3.heap.size w3).alloc (Nat.le_refl _) (.cells #[.int .u8 (tk ts (j + 1)).kind, .string (tk ts (j + 1)).text, .int .i64 (tk ts (j + 1)).pos, .int .i64 (tk ts (j + 1)).stop] 71)
          rw [placeOf_at (HA3.out.below hb), HJ.out]
          omega

/-- anyName, whichever way. -/
theorem anyName_c (F : Interp) (w : World) (hF : F.answers w.tape) (pb tb mb : Nat) (src : ByteArray) (ts : List Tok) (i : Nat) (h : AtTok w pb tb src ts i) (hr : ResIn w mb) :
    Calls Tryf.prog 50 #[.pointer (some ⟨pb, 0, none⟩)] w fun e w' => Ended w pb tb src ts (anyRun ts i) e w' := by
  unfold anyRun
  cases hn : isNm (tokAt ts i) (tokAt ts (i + 1))
  · exact anyName_bad F w hF pb tb mb src ts i h hr hn
  · exact anyName_good F w hF pb tb mb src ts i h hr hn

theorem handlerName_c (F : Interp) (w : World) (hF : F.answers w.tape) (pb tb mb : Nat) (src : ByteArray) (ts : List Tok) (i : Nat) (h : AtTok w pb tb src ts i) (hr : ResIn w mb) :
    Calls Tryf.prog 37 #[.pointer (some ⟨pb, 0, none⟩)] w fun e w' => Ended w pb tb src ts (anyRun ts i) e w' := by
  go_enter Tryf.func37, Tryf.ntmps37
  go_wp2_with fail
  refine (anyName_c F _ (by exact hF) pb tb mb src ts i (by exact h) (by exact hr)).mono ?_
  rintro e w1 hE
  have HE : Hid (Ended w pb tb src ts (anyRun ts i) e w1) := hE
  clear hE
  cases hx : (anyRun ts i).1
  · obtain rfl := HE.out.good hx
    go_wp2_with fail
    go_ret
    exact HE.out
  · obtain ⟨g, rfl, _, _⟩ := HE.out.bad hx
    go_wp2_with fail
    go_ret
    exact HE.out

end Go.Proofs.Qxb6616070aFmt
