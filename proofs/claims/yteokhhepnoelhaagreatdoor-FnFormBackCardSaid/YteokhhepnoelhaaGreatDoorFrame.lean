/-
  The frame that all five rows share: the program's closed facts, the named variables one by one.
-/
import Derived.Test.YteokhhepnoelhaaGreatDoorVarCtx
import Derived.Test.YteokhhepnoelhaaGreatDoorRows
import Derived.ProofKit
import Derived.OpenVars
set_option linter.unusedVariables false
set_option linter.unusedSimpArgs false
namespace Go.Proofs.YteokhhepnoelhaaGreatDoor
open Go.RowKit Go.ChangeShapes Go.WideShapes Go.ChangeAt

theorem Tryz.own : ownKnob Tryz.prog.godebug = none := by kernel_rfl
theorem Tryz.laidOut : laidOutB Tryz.prog = true := by kernel_rfl

theorem trodVars_cons' {H : Type} {enc : TypeId × Value → H} {P : Program} {W : World} {sp : Nat → Bool} {n : String} {ns : List String} {gs : List (DataW H)} {ps : List MemPlace}
    (h : DataW.TrodVars enc P W sp (n :: ns) gs ps) : ∃ d ds ps', gs = d :: ds ∧ DataW.TrodVars enc P W sp ns ds ps' := by
  match gs, h with
  | [], h => exact h.elim
  | d :: ds, h =>
    obtain ⟨_, _, _, _, _, q, _, _, _, _, hs, _⟩ := h
    exact ⟨d, ds, q, rfl, hs⟩
theorem trodVars_nil' {H : Type} {enc : TypeId × Value → H} {P : Program} {W : World} {sp : Nat → Bool} {gs : List (DataW H)} {ps : List MemPlace}
    (h : DataW.TrodVars enc P W sp [] gs ps) : gs = [] := by
  match gs, h with
  | [], _ => rfl
  | _ :: _, h => exact h.elim
theorem trodVars_eight {H : Type} {enc : TypeId × Value → H} {P : Program} {W : World} {sp : Nat → Bool} {n1 n2 n3 n4 n5 n6 n7 n8 : String} {gs : List (DataW H)} {ps : List MemPlace}
    (h : DataW.TrodVars enc P W sp [n1, n2, n3, n4, n5, n6, n7, n8] gs ps) : ∃ g1 g2 g3 g4 g5 g6 g7 g8, gs = [g1, g2, g3, g4, g5, g6, g7, g8] := by
  obtain ⟨g1, r1, q1, e1, h1⟩ := trodVars_cons' h
  obtain ⟨g2, r2, q2, e2, h2⟩ := trodVars_cons' h1
  obtain ⟨g3, r3, q3, e3, h3⟩ := trodVars_cons' h2
  obtain ⟨g4, r4, q4, e4, h4⟩ := trodVars_cons' h3
  obtain ⟨g5, r5, q5, e5, h5⟩ := trodVars_cons' h4
  obtain ⟨g6, r6, q6, e6, h6⟩ := trodVars_cons' h5
  obtain ⟨g7, r7, q7, e7, h7⟩ := trodVars_cons' h6
  obtain ⟨g8, r8, q8, e8, h8⟩ := trodVars_cons' h7
  have e9 := trodVars_nil' h8
  exact ⟨g1, g2, g3, g4, g5, g6, g7, g8, by rw [e1, e2, e3, e4, e5, e6, e7, e8, e9]⟩
end Go.Proofs.YteokhhepnoelhaaGreatDoor
