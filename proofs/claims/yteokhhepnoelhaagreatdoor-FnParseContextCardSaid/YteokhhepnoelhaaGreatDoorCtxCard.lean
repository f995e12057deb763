/-
  A text that is a number is read, and rounded by a context: the tied card of laws.FnParseContext, for every precision, mode and text. The listed package variables hold what the program's text lays (the given tie).
-/
import Derived.Test.YteokhhepnoelhaaGreatDoorXbv
import Derived.Test.YteokhhepnoelhaaGreatDoorXbw
import Derived.Test.YteokhhepnoelhaaGreatDoorCards
import Derived.Test.YteokhhepnoelhaaGreatDoorTie
import Derived.SevenTiedAt
set_option linter.unusedVariables false
set_option linter.unusedSimpArgs false
namespace Go.Proofs.YteokhhepnoelhaaGreatDoor
open Go.RowKit Go.ChangeShapes Go.WideShapes Go.ChangeAt
set_option maxHeartbeats 4000000 in
theorem context_holds : Rows.FnParseContextSaid :=
 OpenClaim.holds_of_wide 5 Tryz.f5 rfl rfl rfl rfl rfl rfl rfl ⟨rfl, rfl, rfl, rfl, rfl⟩ rfl rfl rfl rfl rfl (by as_aux_lemma => kernel_rfl) Tryz.func5 context_closed
  (of_decide_eq_true (by as_aux_lemma => kernel_rfl)) (by unfold Func.isWrapper; first | (rw [if_pos (by decide +kernel)]; kernel_rfl) | (rw [if_neg (by decide +kernel)]; exact ⟨rfl, rfl⟩))
  (fun os started H enc _ => context_lifted os started H enc)
set_option maxHeartbeats 4000000 in
theorem context_card_holds : Rows.FnParseContextCardSaid :=
 Claim7.holds_tied_plain_at .later [] _ true _ true context_holds (fun _ h => by cases h) (by as_aux_lemma => kernel_rfl) (fun _ h => by cases h) fnParseContext_row_tie rfl ⟨rfl, rfl⟩ (by as_aux_lemma => kernel_rfl) rfl
  (fun f fn hf hfn => by
   obtain rfl : f = 5 := Option.some.inj ((show Tryz.prog.funcNamed "loop.example/pub-g03241/laws.FnParseContext" = some 5 by as_aux_lemma => kernel_rfl).symm.trans hf) |>.symm;obtain rfl : fn = Tryz.f5 := (Option.some.inj (Tryz.func5.symm.trans hfn)).symm;exact ⟨by as_aux_lemma => kernel_rfl, fun j t ht => by
    rw [Tryz.params5] at ht;have hm : t ∈ [5, 5, 9] := by simpa using Array.mem_of_getElem? ht
    have hall : ([5, 5, 9].all fun u => !Tryz.prog.wantsStandIn u) = true := by as_aux_lemma => kernel_rfl
    exact (show Tryz.prog.wantsStandIn t = false by simpa using List.all_eq_true.1 hall t hm)⟩)
  (by as_aux_lemma => kernel_rfl)
end Go.Proofs.YteokhhepnoelhaaGreatDoor
