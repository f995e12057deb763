/-
  apd's (*Decimal).setString at the texts of infinities and of what is no number.
-/
import Derived.Test.YteokhhepnoelhaaGreatDoorPrefix
import Derived.Deep.Cut
import Derived.Deep.DeepCutAuto
import Derived.Deep.CutBlock
set_option linter.unusedVariables false
set_option linter.unusedSimpArgs false
namespace Go.Proofs.YteokhhepnoelhaaGreatDoor
open Go.RowKit

/-- What the call of strings.ToLower inside setString gives. -/
def LowerAt (w : World) (D : Nat) (l low : List UInt8) : Prop :=
  Calls Tryz.prog 52 #[.string ⟨(unsign l).toArray⟩] (w.setCell ⟨D, 1, none⟩ (.bool (Lib.hasPrefix l [45]))) fun e w' => e = .returned (.string ⟨low.toArray⟩) ∧ Fr NoB (w.setCell ⟨D, 1, none⟩ (.bool (Lib.hasPrefix l [45]))) w'

/-- setString has come to an end without an error: the form; the coefficient is 0. -/
def SpecialEnd (w : World) (D : Nat) (f : Int) (neg : Bool) (e : Ending) (w' : World) : Prop :=
  e = .returned (.tuple #[.int .u32 0, .nilIface]) ∧ DecAt w' D f neg 0 false (.slice none 0 0) false ∧ Fr (fun i => i = D) w w'

set_option maxRecDepth 100000 in
set_option maxHeartbeats 1000000 in
theorem setString_inf (D : Nat) (n0 : Bool) (l : List UInt8) (w : World) (hD : DecAt w D 0 n0 0 false (.slice none 0 0) false) (hT : LowerAt w D l [105, 110, 102, 105, 110, 105, 116, 121]) :
    Calls Tryz.prog 41 #[.pointer (some ⟨D, 0, none⟩), .pointer (some ⟨0, 0, none⟩), .string ⟨l.toArray⟩] w (SpecialEnd w D 1 (Lib.hasPrefix l [45])) := by
  obtain ⟨⟨h0, h1, h2, h3, h4, h5⟩, f0, f1, f2, f3, f4, f5⟩ := hD.cells
  have HD := hid hD; clear hD
  have HT := hid hT; clear hT
  go_enter Tryz.func41, Tryz.ntmps41
  go_upto_if 36 with (go_at_call 51; refine (consumePrefix_any _ _ _).mono ?_; rintro e w1 ⟨rfl, rfl⟩)
  go_cut [2] (fun s2 wx => s2 = .string ⟨(unsign l).toArray⟩ ∧ wx = w.setCell ⟨D, 1, none⟩ (.bool (Lib.hasPrefix l [45])))
  case first =>
    cases hm : Lib.hasPrefix l [45] with
    | true =>
      have HM := hid hm; clear hm
      go_wp2_with fail
      go_meet
      exact ⟨by rw [unsign_minus HM.out], by rw [HM.out]⟩
    | false =>
      have HM := hid hm; clear hm
      go_wp2_with (go_at_call 51; refine (consumePrefix_any _ _ _).mono ?_; rintro e w1 ⟨rfl, rfl⟩)
      go_meet
      exact ⟨by rw [unsign_else HM.out], by rw [HM.out]⟩
  case rest =>
    obtain ⟨rfl, rfl⟩ := hcut
    have hT := HT.out
    unfold LowerAt at hT
    generalize Lib.hasPrefix l [45] = neg at *
    clear h0 h1 h2 h3 h4 h5 f0 f1 f2 f3 f4 f5 HT
    go_wp2_with fail
    refine hT.mono ?_
    clear hT
    rintro e w1 ⟨rfl, hb⟩
    have hF : Fr (fun i => i = D) w w1 := Fr.trans (Fr.setCell (S := fun i => i = D) (Fr.refl _ w) (p := ⟨D, 1, none⟩) (fun _ => rfl) (.bool neg)) hb (fun _ _ h => h.elim)
    have hD1 : DecAt w1 D 0 neg 0 false (.slice none 0 0) false := (HD.out.set1 neg).fr hb (fun h => h)
    clear hb
    obtain ⟨⟨h0, h1, h2, h3, h4, h5⟩, f0, f1, f2, f3, f4, f5⟩ := hD1.cells
    have HD1 := hid hD1; have HF := hid hF
    clear hD1 hF
    go_wp2_with (first | (go_at_call 53; go_in) | (go_at_call 81; go_in) | (go_at_call 122; go_in) | (go_at_call 162; go_in) | (go_at_call 54; refine (Tryz.strings_HasPrefix _ _ _).mono ?_; rintro e w2 ⟨rfl, rfl⟩) | (go_at_call 51; refine (consumePrefix_any _ _ _).mono ?_; rintro e w2 ⟨rfl, rfl⟩))
    go_ret2
    exact ⟨rfl, ((((((HD1.out.set2 0).set5 false).set4 (.slice none 0 0)).set3 false).set0 3).set0 1), by repeat' (first | (with_reducible exact HF.out) | refine Fr.setCell (S := fun i => i = D) ?_ (fun _ => rfl) _)⟩

set_option maxRecDepth 100000 in
set_option maxHeartbeats 1000000 in
theorem setString_nan (D : Nat) (n0 : Bool) (l : List UInt8) (w : World) (hD : DecAt w D 0 n0 0 false (.slice none 0 0) false) (hT : LowerAt w D l [110, 97, 110]) :
    Calls Tryz.prog 41 #[.pointer (some ⟨D, 0, none⟩), .pointer (some ⟨0, 0, none⟩), .string ⟨l.toArray⟩] w (SpecialEnd w D 3 (Lib.hasPrefix l [45])) := by
  obtain ⟨⟨h0, h1, h2, h3, h4, h5⟩, f0, f1, f2, f3, f4, f5⟩ := hD.cells
  have HD := hid hD; clear hD
  have HT := hid hT; clear hT
  go_enter Tryz.func41, Tryz.ntmps41
  go_upto_if 36 with (go_at_call 51; refine (consumePrefix_any _ _ _).mono ?_; rintro e w1 ⟨rfl, rfl⟩)
  go_cut [2] (fun s2 wx => s2 = .string ⟨(unsign l).toArray⟩ ∧ wx = w.setCell ⟨D, 1, none⟩ (.bool (Lib.hasPrefix l [45])))
  case first =>
    cases hm : Lib.hasPrefix l [45] with
    | true =>
      have HM := hid hm; clear hm
      go_wp2_with fail
      go_meet
      exact ⟨by rw [unsign_minus HM.out], by rw [HM.out]⟩
    | false =>
      have HM := hid hm; clear hm
      go_wp2_with (go_at_call 51; refine (consumePrefix_any _ _ _).mono ?_; rintro e w1 ⟨rfl, rfl⟩)
      go_meet
      exact ⟨by rw [unsign_else HM.out], by rw [HM.out]⟩
  case rest =>
    obtain ⟨rfl, rfl⟩ := hcut
    have hT := HT.out
    unfold LowerAt at hT
    generalize Lib.hasPrefix l [45] = neg at *
    clear h0 h1 h2 h3 h4 h5 f0 f1 f2 f3 f4 f5 HT
    go_wp2_with fail
    refine hT.mono ?_
    clear hT
    rintro e w1 ⟨rfl, hb⟩
    have hF : Fr (fun i => i = D) w w1 := Fr.trans (Fr.setCell (S := fun i => i = D) (Fr.refl _ w) (p := ⟨D, 1, none⟩) (fun _ => rfl) (.bool neg)) hb (fun _ _ h => h.elim)
    have hD1 : DecAt w1 D 0 neg 0 false (.slice none 0 0) false := (HD.out.set1 neg).fr hb (fun h => h)
    clear hb
    obtain ⟨⟨h0, h1, h2, h3, h4, h5⟩, f0, f1, f2, f3, f4, f5⟩ := hD1.cells
    have HD1 := hid hD1; have HF := hid hF
    clear hD1 hF
    go_wp2_with (first | (go_at_call 53; go_in) | (go_at_call 81; go_in) | (go_at_call 122; go_in) | (go_at_call 162; go_in) | (go_at_call 54; refine (Tryz.strings_HasPrefix _ _ _).mono ?_; rintro e w2 ⟨rfl, rfl⟩) | (go_at_call 51; refine (consumePrefix_any _ _ _).mono ?_; rintro e w2 ⟨rfl, rfl⟩))
    go_ret2
    exact ⟨rfl, ((((((HD1.out.set2 0).set5 false).set4 (.slice none 0 0)).set3 false).set0 3)), by repeat' (first | (with_reducible exact HF.out) | refine Fr.setCell (S := fun i => i = D) ?_ (fun _ => rfl) _)⟩

set_option maxRecDepth 100000 in
set_option maxHeartbeats 1000000 in
theorem setString_snan (D : Nat) (n0 : Bool) (l : List UInt8) (w : World) (hD : DecAt w D 0 n0 0 false (.slice none 0 0) false) (hT : LowerAt w D l [115, 110, 97, 110]) :
    Calls Tryz.prog 41 #[.pointer (some ⟨D, 0, none⟩), .pointer (some ⟨0, 0, none⟩), .string ⟨l.toArray⟩] w (SpecialEnd w D 2 (Lib.hasPrefix l [45])) := by
  obtain ⟨⟨h0, h1, h2, h3, h4, h5⟩, f0, f1, f2, f3, f4, f5⟩ := hD.cells
  have HD := hid hD; clear hD
  have HT := hid hT; clear hT
  go_enter Tryz.func41, Tryz.ntmps41
  go_upto_if 36 with (go_at_call 51; refine (consumePrefix_any _ _ _).mono ?_; rintro e w1 ⟨rfl, rfl⟩)
  go_cut [2] (fun s2 wx => s2 = .string ⟨(unsign l).toArray⟩ ∧ wx = w.setCell ⟨D, 1, none⟩ (.bool (Lib.hasPrefix l [45])))
  case first =>
    cases hm : Lib.hasPrefix l [45] with
    | true =>
      have HM := hid hm; clear hm
      go_wp2_with fail
      go_meet
      exact ⟨by rw [unsign_minus HM.out], by rw [HM.out]⟩
    | false =>
      have HM := hid hm; clear hm
      go_wp2_with (go_at_call 51; refine (consumePrefix_any _ _ _).mono ?_; rintro e w1 ⟨rfl, rfl⟩)
      go_meet
      exact ⟨by rw [unsign_else HM.out], by rw [HM.out]⟩
  case rest =>
    obtain ⟨rfl, rfl⟩ := hcut
    have hT := HT.out
    unfold LowerAt at hT
    generalize Lib.hasPrefix l [45] = neg at *
    clear h0 h1 h2 h3 h4 h5 f0 f1 f2 f3 f4 f5 HT
    go_wp2_with fail
    refine hT.mono ?_
    clear hT
    rintro e w1 ⟨rfl, hb⟩
    have hF : Fr (fun i => i = D) w w1 := Fr.trans (Fr.setCell (S := fun i => i = D) (Fr.refl _ w) (p := ⟨D, 1, none⟩) (fun _ => rfl) (.bool neg)) hb (fun _ _ h => h.elim)
    have hD1 : DecAt w1 D 0 neg 0 false (.slice none 0 0) false := (HD.out.set1 neg).fr hb (fun h => h)
    clear hb
    obtain ⟨⟨h0, h1, h2, h3, h4, h5⟩, f0, f1, f2, f3, f4, f5⟩ := hD1.cells
    have HD1 := hid hD1; have HF := hid hF
    clear hD1 hF
    go_wp2_with (first | (go_at_call 53; go_in) | (go_at_call 81; go_in) | (go_at_call 122; go_in) | (go_at_call 162; go_in) | (go_at_call 54; refine (Tryz.strings_HasPrefix _ _ _).mono ?_; rintro e w2 ⟨rfl, rfl⟩) | (go_at_call 51; refine (consumePrefix_any _ _ _).mono ?_; rintro e w2 ⟨rfl, rfl⟩))
    go_ret2
    exact ⟨rfl, ((((((HD1.out.set2 0).set5 false).set4 (.slice none 0 0)).set3 false).set0 3).set0 2), by repeat' (first | (with_reducible exact HF.out) | refine Fr.setCell (S := fun i => i = D) ?_ (fun _ => rfl) _)⟩

end Go.Proofs.YteokhhepnoelhaaGreatDoor
