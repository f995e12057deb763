/-
  The closed facts of the row of FnFormBack, each a lemma of its own.
-/
import Derived.Test.YteokhhepnoelhaaGreatDoorRows
import Derived.JoinedOf
import Derived.KernelRfl
set_option linter.unusedVariables false
set_option linter.unusedSimpArgs false
namespace Go.Proofs.YteokhhepnoelhaaGreatDoor

set_option maxHeartbeats 4000000 in
theorem formBack_closed : joinedFacts Tryz.prog 7 Tryz.f7 Rows.fnFormBackSpec Rows.fnFormBackRow = true := by
  unfold joinedFacts
  simp only [Bool.and_eq_true]
  repeat' apply And.intro
  all_goals as_aux_lemma => kernel_rfl
end Go.Proofs.YteokhhepnoelhaaGreatDoor
