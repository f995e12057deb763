/-
  The closed facts of the row of FnParseFails, each a lemma of its own.
-/
import Derived.Test.YteokhhepnoelhaaGreatDoorRows
import Derived.JoinedOf
import Derived.KernelRfl
set_option linter.unusedVariables false
set_option linter.unusedSimpArgs false
namespace Go.Proofs.YteokhhepnoelhaaGreatDoor

set_option maxHeartbeats 4000000 in
theorem parseFails_closed : joinedFacts Tryz.prog 4 Tryz.f4 Rows.fnParseFailsSpec Rows.fnParseFailsRow = true := by
  unfold joinedFacts
  simp only [Bool.and_eq_true]
  repeat' apply And.intro
  all_goals as_aux_lemma => kernel_rfl
end Go.Proofs.YteokhhepnoelhaaGreatDoor
