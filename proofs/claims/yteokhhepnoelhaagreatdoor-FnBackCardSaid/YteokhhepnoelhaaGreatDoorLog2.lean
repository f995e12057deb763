/-
  math.Log2(10).
-/
import Derived.Test.YteokhhepnoelhaaGreatDoorBase
set_option linter.unusedVariables false
set_option linter.unusedSimpArgs false
namespace Go.Proofs.YteokhhepnoelhaaGreatDoor
open Go.RowKit
set_option maxRecDepth 100000 in
set_option maxHeartbeats 400000 in
theorem abs_10 (w : World) : Calls Tryz.prog 180 #[.float .f64 4621819117588971520] w fun e w' => e = .returned (.float .f64 4614662735865160561) ∧ w = w' := by
  have b1 : ∀ w : World, (callFunc 304 #[.float .f64 4621819117588971520]).run Tryz.prog w = .ok (.value (.int .u64 4621819117588971520)) w := fun w => by kernel_rfl
  have b2 : ∀ w : World, (callFunc 305 #[.int .u64 4621819117588971520]).run Tryz.prog w = .ok (.value (.float .f64 4621819117588971520)) w := fun w => by kernel_rfl
  have b3 : ∀ w : World, (callFunc 305 #[.int .u64 4603804719079489536]).run Tryz.prog w = .ok (.value (.float .f64 4603804719079489536)) w := fun w => by kernel_rfl
  have b4 : ∀ w : World, (callFunc 304 #[.float .f64 4603804719079489536]).run Tryz.prog w = .ok (.value (.int .u64 4603804719079489536)) w := fun w => by kernel_rfl
  have e1 : bits .andNot .u64 4621819117588971520 9223372036854775808 = 4621819117588971520 := by kernel_rfl
  have e2 : bits .andNot .u64 4603804719079489536 9223372036854775808 = 4603804719079489536 := by kernel_rfl
  have e3 : bits .and .u64 1026 2047 = 1026 := by kernel_rfl
  have e4 : bits .andNot .u64 4621819117588971520 9218868437227405312 = 1125899906842624 := by kernel_rfl
  have e5 : bits .or .u64 1125899906842624 4602678819172646912 = 4603804719079489536 := by kernel_rfl
  have e6 : bits .and .u64 1022 2047 = 1022 := by kernel_rfl
  have e7 : bits .andNot .u64 4603804719079489536 9218868437227405312 = 1125899906842624 := by kernel_rfl
  have b5 : ∀ w : World, (callFunc 285 #[.float .f64 4603804719079489536]).run Tryz.prog w = .ok (.value (.float .f64 13825510489450817230)) w := fun w => by kernel_rfl
  have f1 : ∀ w : World, (binOp .mul 220 (.float .f64 13825510489450817230) (.float .f64 4609176140021203710)).run Tryz.prog w = .ok (.float .f64 13827654785158443579) w := fun w => by kernel_rfl
  have f2 : ∀ w : World, (convert 3 220 (.int .i64 4)).run Tryz.prog w = .ok (.float .f64 4616189618054758400) w := fun w => by kernel_rfl
  have f3 : ∀ w : World, (binOp .add 220 (.float .f64 13827654785158443579) (.float .f64 4616189618054758400)).run Tryz.prog w = .ok (.float .f64 4614662735865160561) w := fun w => by kernel_rfl
  go_enter Tryz.func180, Tryz.ntmps180
  go_wp2
  go_ret
  exact ⟨rfl, rfl⟩
end Go.Proofs.YteokhhepnoelhaaGreatDoor
