/-
  The closed facts of the row of FnParseContext, each a lemma of its own.
-/
import Derived.Test.YteokhhepnoelhaaGreatDoorRows
import Derived.JoinedOf
import Derived.KernelRfl
set_option linter.unusedVariables false
set_option linter.unusedSimpArgs false
namespace Go.Proofs.YteokhhepnoelhaaGreatDoor
set_option maxHeartbeats 4000000 in
theorem context_closed : joinedFacts Tryz.prog 5 Tryz.f5 Rows.fnParseContextSpec Rows.fnParseContextRow = true := by
 unfold joinedFacts;simp only [Bool.and_eq_true];repeat' apply And.intro
 all_goals as_aux_lemma => kernel_rfl
end Go.Proofs.YteokhhepnoelhaaGreatDoor
