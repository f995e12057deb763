/-
  How many places nat.itoa makes room for: the float quotient, bit length by bit length (checked by the kernel).
-/
import Derived.Test.YteokhhepnoelhaaGreatDoorBase
set_option linter.unusedVariables false
namespace Go.Proofs.YteokhhepnoelhaaGreatDoor
open Go.RowKit
def quoOk (bl : Nat) : Bool :=
  match FloatKind.f64.format.div (FloatKind.f64.nearest (bl : Int)) 4614662735865160561 with
  | some q => decide ((FloatKind.f64.decode q).toInt .zero = some ((bl * 30103 / 100000 : Nat) : Int))
  | none => false
theorem quoAll : (List.range 300).all quoOk = true := by kernel_rfl
theorem conv_run (bl : Nat) (w : World) : (convert 3 220 (.int .i64 bl)).run Tryz.prog w = .ok (.float .f64 (FloatKind.f64.nearest (bl : Int))) w := by kernel_rfl
theorem quo_step (x y : Nat) (w : World) : (binOp .quo 220 (.float .f64 x) (.float .f64 y)).run Tryz.prog w = (Op.floatArith .quo .f64 x y).run Tryz.prog w := by kernel_rfl
theorem back_step (x : Nat) (w : World) : (convert 220 3 (.float .f64 x)).run Tryz.prog w = (Conv.floatToInt .f64 x .i64).run Tryz.prog w := by kernel_rfl
theorem places_run (bl : Nat) (h : bl < 300) : ∃ q, (∀ w, (binOp .quo 220 (.float .f64 (FloatKind.f64.nearest (bl : Int))) (.float .f64 4614662735865160561)).run Tryz.prog w = .ok (.float .f64 q) w) ∧
    ∀ w, (convert 220 3 (.float .f64 q)).run Tryz.prog w = .ok (.int .i64 ((bl * 30103 / 100000 : Nat) : Int)) w := by
  have hq := List.all_eq_true.1 quoAll bl (by simpa using h)
  unfold quoOk at hq
  cases hd : FloatKind.f64.format.div (FloatKind.f64.nearest (bl : Int)) 4614662735865160561 with
  | none => rw [hd] at hq; cases hq
  | some q =>
    rw [hd] at hq
    have hq := of_decide_eq_true hq
    refine ⟨q, fun w => ?_, fun w => ?_⟩
    · rw [quo_step]
      simp [Op.floatArith, hd]
    · rw [back_step]
      have h1 : IntKind.min .i64 ≤ ((bl * 30103 / 100000 : Nat) : Int) ∧ ((bl * 30103 / 100000 : Nat) : Int) ≤ IntKind.max .i64 := by
        have e1 : IntKind.min .i64 = -9223372036854775808 := by kernel_rfl
        have e2 : IntKind.max .i64 = 9223372036854775807 := by kernel_rfl
        rw [e1, e2]; omega
      unfold Conv.floatToInt
      rw [hq]
      simp only [h1, and_self, if_true]
      rfl
end Go.Proofs.YteokhhepnoelhaaGreatDoor
