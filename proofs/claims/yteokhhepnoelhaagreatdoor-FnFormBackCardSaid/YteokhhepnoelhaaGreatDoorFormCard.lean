/-
  Infinities and what is no number are read from their text as they were: the tied card of laws.FnFormBack, for every form and sign. The listed package variables hold what the program's text lays (the given tie).
-/
import Derived.Test.YteokhhepnoelhaaGreatDoorFormLift
import Derived.Test.YteokhhepnoelhaaGreatDoorFormFacts
import Derived.Test.YteokhhepnoelhaaGreatDoorCards
import Derived.Test.YteokhhepnoelhaaGreatDoorTie
import Derived.SevenTiedAt
set_option linter.unusedVariables false
set_option linter.unusedSimpArgs false
namespace Go.Proofs.YteokhhepnoelhaaGreatDoor
open Go.RowKit Go.ChangeShapes Go.WideShapes Go.ChangeAt

set_option maxHeartbeats 4000000 in
theorem formBack_holds : Rows.FnFormBackSaid :=
  OpenClaim.holds_of_wide 7 Tryz.f7 rfl rfl rfl rfl rfl rfl rfl ⟨rfl, rfl, rfl, rfl, rfl⟩ rfl rfl rfl rfl rfl (by as_aux_lemma => kernel_rfl) Tryz.func7 formBack_closed
    (of_decide_eq_true (by as_aux_lemma => kernel_rfl)) (by unfold Func.isWrapper; first | (rw [if_pos (by decide +kernel)]; kernel_rfl) | (rw [if_neg (by decide +kernel)]; exact ⟨rfl, rfl⟩))
    (fun os started H enc _ => formBack_lifted os started H enc)

set_option maxHeartbeats 4000000 in
theorem formBack_card_holds : Rows.FnFormBackCardSaid :=
  Claim7.holds_tied_plain_at .later [] _ true _ true formBack_holds (fun _ h => by cases h) (by as_aux_lemma => kernel_rfl) (fun _ h => by cases h) fnFormBack_row_tie rfl ⟨rfl, rfl⟩ (by as_aux_lemma => kernel_rfl) rfl
    (fun f fn hf hfn => by
      obtain rfl : f = 7 := Option.some.inj ((show Tryz.prog.funcNamed "loop.example/pub-g03241/laws.FnFormBack" = some 7 by as_aux_lemma => kernel_rfl).symm.trans hf) |>.symm
      obtain rfl : fn = Tryz.f7 := (Option.some.inj (Tryz.func7.symm.trans hfn)).symm
      exact ⟨by as_aux_lemma => kernel_rfl, fun j t ht => by
        rw [Tryz.params7] at ht
        have hm : t ∈ [5, 4] := by simpa using Array.mem_of_getElem? ht
        have hall : ([5, 4].all fun u => !Tryz.prog.wantsStandIn u) = true := by as_aux_lemma => kernel_rfl
        exact (show Tryz.prog.wantsStandIn t = false by simpa using List.all_eq_true.1 hall t hm)⟩)
    (by as_aux_lemma => kernel_rfl)
#print axioms formBack_card_holds
end Go.Proofs.YteokhhepnoelhaaGreatDoor
