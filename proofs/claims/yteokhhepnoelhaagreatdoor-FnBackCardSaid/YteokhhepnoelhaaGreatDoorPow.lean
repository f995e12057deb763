/-
  maxPow(10), pow(10, n).
-/
import Derived.Test.YteokhhepnoelhaaGreatDoorBase
import Derived.KernelRfl
set_option linter.unusedVariables false
set_option linter.unusedSimpArgs false
namespace Go.Proofs.YteokhhepnoelhaaGreatDoor
open Go.RowKit

theorem maxPow10 (w : World) : Calls Tryz.prog 184 #[.int .u64 10] w fun e w' => e = .returned (.tuple #[.int .u64 10000000000000000000, .int .i64 19]) ∧ w = w' := by
  go_enter Tryz.func184, Tryz.ntmps184
  go_wp2
  go_rounds 20
  go_ret2
  exact ⟨rfl, rfl⟩

theorem pow10_0 (w : World) : Calls Tryz.prog 226 #[.int .u64 10, .int .i64 0] w fun e w' => e = .returned (.int .u64 1) ∧ w = w' := by
  go_enter Tryz.func226, Tryz.ntmps226
  go_wp2
  go_rounds 7
  go_ret
  exact ⟨rfl, rfl⟩

theorem pow10_1 (w : World) : Calls Tryz.prog 226 #[.int .u64 10, .int .i64 1] w fun e w' => e = .returned (.int .u64 10) ∧ w = w' := by
  have b1 : (bits BinOp.and IntKind.i64 1 1 != 0) = true := by decide
  go_enter Tryz.func226, Tryz.ntmps226
  go_wp2
  go_rounds 7
  go_ret
  exact ⟨rfl, rfl⟩

theorem pow10_2 (w : World) : Calls Tryz.prog 226 #[.int .u64 10, .int .i64 2] w fun e w' => e = .returned (.int .u64 100) ∧ w = w' := by
  have b2 : (bits BinOp.and IntKind.i64 2 1 != 0) = false := by decide
  have b1 : (bits BinOp.and IntKind.i64 1 1 != 0) = true := by decide
  go_enter Tryz.func226, Tryz.ntmps226
  go_wp2
  go_rounds 7
  go_ret
  exact ⟨rfl, rfl⟩

theorem pow10_3 (w : World) : Calls Tryz.prog 226 #[.int .u64 10, .int .i64 3] w fun e w' => e = .returned (.int .u64 1000) ∧ w = w' := by
  have b3 : (bits BinOp.and IntKind.i64 3 1 != 0) = true := by decide
  have b1 : (bits BinOp.and IntKind.i64 1 1 != 0) = true := by decide
  go_enter Tryz.func226, Tryz.ntmps226
  go_wp2
  go_rounds 7
  go_ret
  exact ⟨rfl, rfl⟩

theorem pow10_4 (w : World) : Calls Tryz.prog 226 #[.int .u64 10, .int .i64 4] w fun e w' => e = .returned (.int .u64 10000) ∧ w = w' := by
  have b4 : (bits BinOp.and IntKind.i64 4 1 != 0) = false := by decide
  have b2 : (bits BinOp.and IntKind.i64 2 1 != 0) = false := by decide
  have b1 : (bits BinOp.and IntKind.i64 1 1 != 0) = true := by decide
  go_enter Tryz.func226, Tryz.ntmps226
  go_wp2
  go_rounds 7
  go_ret
  exact ⟨rfl, rfl⟩

theorem pow10_5 (w : World) : Calls Tryz.prog 226 #[.int .u64 10, .int .i64 5] w fun e w' => e = .returned (.int .u64 100000) ∧ w = w' := by
  have b5 : (bits BinOp.and IntKind.i64 5 1 != 0) = true := by decide
  have b2 : (bits BinOp.and IntKind.i64 2 1 != 0) = false := by decide
  have b1 : (bits BinOp.and IntKind.i64 1 1 != 0) = true := by decide
  go_enter Tryz.func226, Tryz.ntmps226
  go_wp2
  go_rounds 7
  go_ret
  exact ⟨rfl, rfl⟩

theorem pow10_6 (w : World) : Calls Tryz.prog 226 #[.int .u64 10, .int .i64 6] w fun e w' => e = .returned (.int .u64 1000000) ∧ w = w' := by
  have b6 : (bits BinOp.and IntKind.i64 6 1 != 0) = false := by decide
  have b3 : (bits BinOp.and IntKind.i64 3 1 != 0) = true := by decide
  have b1 : (bits BinOp.and IntKind.i64 1 1 != 0) = true := by decide
  go_enter Tryz.func226, Tryz.ntmps226
  go_wp2
  go_rounds 7
  go_ret
  exact ⟨rfl, rfl⟩

theorem pow10_7 (w : World) : Calls Tryz.prog 226 #[.int .u64 10, .int .i64 7] w fun e w' => e = .returned (.int .u64 10000000) ∧ w = w' := by
  have b7 : (bits BinOp.and IntKind.i64 7 1 != 0) = true := by decide
  have b3 : (bits BinOp.and IntKind.i64 3 1 != 0) = true := by decide
  have b1 : (bits BinOp.and IntKind.i64 1 1 != 0) = true := by decide
  go_enter Tryz.func226, Tryz.ntmps226
  go_wp2
  go_rounds 7
  go_ret
  exact ⟨rfl, rfl⟩

theorem pow10_8 (w : World) : Calls Tryz.prog 226 #[.int .u64 10, .int .i64 8] w fun e w' => e = .returned (.int .u64 100000000) ∧ w = w' := by
  have b8 : (bits BinOp.and IntKind.i64 8 1 != 0) = false := by decide
  have b4 : (bits BinOp.and IntKind.i64 4 1 != 0) = false := by decide
  have b2 : (bits BinOp.and IntKind.i64 2 1 != 0) = false := by decide
  have b1 : (bits BinOp.and IntKind.i64 1 1 != 0) = true := by decide
  go_enter Tryz.func226, Tryz.ntmps226
  go_wp2
  go_rounds 7
  go_ret
  exact ⟨rfl, rfl⟩

theorem pow10_9 (w : World) : Calls Tryz.prog 226 #[.int .u64 10, .int .i64 9] w fun e w' => e = .returned (.int .u64 1000000000) ∧ w = w' := by
  have b9 : (bits BinOp.and IntKind.i64 9 1 != 0) = true := by decide
  have b4 : (bits BinOp.and IntKind.i64 4 1 != 0) = false := by decide
  have b2 : (bits BinOp.and IntKind.i64 2 1 != 0) = false := by decide
  have b1 : (bits BinOp.and IntKind.i64 1 1 != 0) = true := by decide
  go_enter Tryz.func226, Tryz.ntmps226
  go_wp2
  go_rounds 7
  go_ret
  exact ⟨rfl, rfl⟩

theorem pow10_10 (w : World) : Calls Tryz.prog 226 #[.int .u64 10, .int .i64 10] w fun e w' => e = .returned (.int .u64 10000000000) ∧ w = w' := by
  have b10 : (bits BinOp.and IntKind.i64 10 1 != 0) = false := by decide
  have b5 : (bits BinOp.and IntKind.i64 5 1 != 0) = true := by decide
  have b2 : (bits BinOp.and IntKind.i64 2 1 != 0) = false := by decide
  have b1 : (bits BinOp.and IntKind.i64 1 1 != 0) = true := by decide
  go_enter Tryz.func226, Tryz.ntmps226
  go_wp2
  go_rounds 7
  go_ret
  exact ⟨rfl, rfl⟩

theorem pow10_11 (w : World) : Calls Tryz.prog 226 #[.int .u64 10, .int .i64 11] w fun e w' => e = .returned (.int .u64 100000000000) ∧ w = w' := by
  have b11 : (bits BinOp.and IntKind.i64 11 1 != 0) = true := by decide
  have b5 : (bits BinOp.and IntKind.i64 5 1 != 0) = true := by decide
  have b2 : (bits BinOp.and IntKind.i64 2 1 != 0) = false := by decide
  have b1 : (bits BinOp.and IntKind.i64 1 1 != 0) = true := by decide
  go_enter Tryz.func226, Tryz.ntmps226
  go_wp2
  go_rounds 7
  go_ret
  exact ⟨rfl, rfl⟩

theorem pow10_12 (w : World) : Calls Tryz.prog 226 #[.int .u64 10, .int .i64 12] w fun e w' => e = .returned (.int .u64 1000000000000) ∧ w = w' := by
  have b12 : (bits BinOp.and IntKind.i64 12 1 != 0) = false := by decide
  have b6 : (bits BinOp.and IntKind.i64 6 1 != 0) = false := by decide
  have b3 : (bits BinOp.and IntKind.i64 3 1 != 0) = true := by decide
  have b1 : (bits BinOp.and IntKind.i64 1 1 != 0) = true := by decide
  go_enter Tryz.func226, Tryz.ntmps226
  go_wp2
  go_rounds 7
  go_ret
  exact ⟨rfl, rfl⟩

theorem pow10_13 (w : World) : Calls Tryz.prog 226 #[.int .u64 10, .int .i64 13] w fun e w' => e = .returned (.int .u64 10000000000000) ∧ w = w' := by
  have b13 : (bits BinOp.and IntKind.i64 13 1 != 0) = true := by decide
  have b6 : (bits BinOp.and IntKind.i64 6 1 != 0) = false := by decide
  have b3 : (bits BinOp.and IntKind.i64 3 1 != 0) = true := by decide
  have b1 : (bits BinOp.and IntKind.i64 1 1 != 0) = true := by decide
  go_enter Tryz.func226, Tryz.ntmps226
  go_wp2
  go_rounds 7
  go_ret
  exact ⟨rfl, rfl⟩

theorem pow10_14 (w : World) : Calls Tryz.prog 226 #[.int .u64 10, .int .i64 14] w fun e w' => e = .returned (.int .u64 100000000000000) ∧ w = w' := by
  have b14 : (bits BinOp.and IntKind.i64 14 1 != 0) = false := by decide
  have b7 : (bits BinOp.and IntKind.i64 7 1 != 0) = true := by decide
  have b3 : (bits BinOp.and IntKind.i64 3 1 != 0) = true := by decide
  have b1 : (bits BinOp.and IntKind.i64 1 1 != 0) = true := by decide
  go_enter Tryz.func226, Tryz.ntmps226
  go_wp2
  go_rounds 7
  go_ret
  exact ⟨rfl, rfl⟩

theorem pow10_15 (w : World) : Calls Tryz.prog 226 #[.int .u64 10, .int .i64 15] w fun e w' => e = .returned (.int .u64 1000000000000000) ∧ w = w' := by
  have b15 : (bits BinOp.and IntKind.i64 15 1 != 0) = true := by decide
  have b7 : (bits BinOp.and IntKind.i64 7 1 != 0) = true := by decide
  have b3 : (bits BinOp.and IntKind.i64 3 1 != 0) = true := by decide
  have b1 : (bits BinOp.and IntKind.i64 1 1 != 0) = true := by decide
  go_enter Tryz.func226, Tryz.ntmps226
  go_wp2
  go_rounds 7
  go_ret
  exact ⟨rfl, rfl⟩

theorem pow10_16 (w : World) : Calls Tryz.prog 226 #[.int .u64 10, .int .i64 16] w fun e w' => e = .returned (.int .u64 10000000000000000) ∧ w = w' := by
  have b16 : (bits BinOp.and IntKind.i64 16 1 != 0) = false := by decide
  have b8 : (bits BinOp.and IntKind.i64 8 1 != 0) = false := by decide
  have b4 : (bits BinOp.and IntKind.i64 4 1 != 0) = false := by decide
  have b2 : (bits BinOp.and IntKind.i64 2 1 != 0) = false := by decide
  have b1 : (bits BinOp.and IntKind.i64 1 1 != 0) = true := by decide
  go_enter Tryz.func226, Tryz.ntmps226
  go_wp2
  go_rounds 7
  go_ret
  exact ⟨rfl, rfl⟩

theorem pow10_17 (w : World) : Calls Tryz.prog 226 #[.int .u64 10, .int .i64 17] w fun e w' => e = .returned (.int .u64 100000000000000000) ∧ w = w' := by
  have b17 : (bits BinOp.and IntKind.i64 17 1 != 0) = true := by decide
  have b8 : (bits BinOp.and IntKind.i64 8 1 != 0) = false := by decide
  have b4 : (bits BinOp.and IntKind.i64 4 1 != 0) = false := by decide
  have b2 : (bits BinOp.and IntKind.i64 2 1 != 0) = false := by decide
  have b1 : (bits BinOp.and IntKind.i64 1 1 != 0) = true := by decide
  go_enter Tryz.func226, Tryz.ntmps226
  go_wp2
  go_rounds 7
  go_ret
  exact ⟨rfl, rfl⟩

theorem pow10_18 (w : World) : Calls Tryz.prog 226 #[.int .u64 10, .int .i64 18] w fun e w' => e = .returned (.int .u64 1000000000000000000) ∧ w = w' := by
  have b18 : (bits BinOp.and IntKind.i64 18 1 != 0) = false := by decide
  have b9 : (bits BinOp.and IntKind.i64 9 1 != 0) = true := by decide
  have b4 : (bits BinOp.and IntKind.i64 4 1 != 0) = false := by decide
  have b2 : (bits BinOp.and IntKind.i64 2 1 != 0) = false := by decide
  have b1 : (bits BinOp.and IntKind.i64 1 1 != 0) = true := by decide
  go_enter Tryz.func226, Tryz.ntmps226
  go_wp2
  go_rounds 7
  go_ret
  exact ⟨rfl, rfl⟩

theorem pow10_19 (w : World) : Calls Tryz.prog 226 #[.int .u64 10, .int .i64 19] w fun e w' => e = .returned (.int .u64 10000000000000000000) ∧ w = w' := by
  have b19 : (bits BinOp.and IntKind.i64 19 1 != 0) = true := by decide
  have b9 : (bits BinOp.and IntKind.i64 9 1 != 0) = true := by decide
  have b4 : (bits BinOp.and IntKind.i64 4 1 != 0) = false := by decide
  have b2 : (bits BinOp.and IntKind.i64 2 1 != 0) = false := by decide
  have b1 : (bits BinOp.and IntKind.i64 1 1 != 0) = true := by decide
  go_enter Tryz.func226, Tryz.ntmps226
  go_wp2
  go_rounds 7
  go_ret
  exact ⟨rfl, rfl⟩

theorem pow10_any (n : Nat) (hn : n < 20) (w : World) : Calls Tryz.prog 226 #[.int .u64 10, .int .i64 (n : Int)] w fun e w' => e = .returned (.int .u64 ((10 ^ n : Nat) : Int)) ∧ w = w' := by
  match n, hn with
  | 0, _ => exact pow10_0 w
  | 1, _ => exact pow10_1 w
  | 2, _ => exact pow10_2 w
  | 3, _ => exact pow10_3 w
  | 4, _ => exact pow10_4 w
  | 5, _ => exact pow10_5 w
  | 6, _ => exact pow10_6 w
  | 7, _ => exact pow10_7 w
  | 8, _ => exact pow10_8 w
  | 9, _ => exact pow10_9 w
  | 10, _ => exact pow10_10 w
  | 11, _ => exact pow10_11 w
  | 12, _ => exact pow10_12 w
  | 13, _ => exact pow10_13 w
  | 14, _ => exact pow10_14 w
  | 15, _ => exact pow10_15 w
  | 16, _ => exact pow10_16 w
  | 17, _ => exact pow10_17 w
  | 18, _ => exact pow10_18 w
  | 19, _ => exact pow10_19 w
  | n + 20, h => exact absurd h (by omega)
end Go.Proofs.YteokhhepnoelhaaGreatDoor
