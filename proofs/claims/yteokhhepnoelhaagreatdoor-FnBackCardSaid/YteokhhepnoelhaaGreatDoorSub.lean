/-
  math/bits.Sub.
-/
import Derived.Test.YteokhhepnoelhaaGreatDoorArith
set_option linter.unusedVariables false
set_option linter.unusedSimpArgs false
namespace Go.Proofs.YteokhhepnoelhaaGreatDoor
open Go.RowKit
theorem run_sub64_here (x y b : Nat) (hb : b ≤ 1) (w : World) :
    (callFunc 269 #[.int .u64 x, .int .u64 y, .int .u64 b]).run Tryz.prog w =
      .ok (.value (.tuple #[.int .u64 (((x + 18446744073709551616 - y - b) % 18446744073709551616 : Nat) : Int), .int .u64 ((if x < y + b then 1 else 0 : Nat) : Int)])) w := by
  rw [run_callFunc_extern Tryz.func269 (by kernel_rfl) (by kernel_rfl) (by kernel_rfl) (e := sub64Entry) (by kernel_rfl), run_sub64 x y b hb]
  rfl

theorem bitsSub (x y b : Nat) (hb : b ≤ 1) (w : World) :
    Calls Tryz.prog 238 #[.int .u64 x, .int .u64 y, .int .u64 b] w fun e w' => e = .returned (.tuple #[.int .u64 (((x + 18446744073709551616 - y - b) % 18446744073709551616 : Nat) : Int), .int .u64 ((if x < y + b then 1 else 0 : Nat) : Int)]) ∧ w = w' := by
  have hr := fun w => run_sub64_here x y b hb w
  generalize ((x + 18446744073709551616 - y - b) % 18446744073709551616) = s at *
  generalize (if x < y + b then 1 else 0 : Nat) = q at *
  go_enter Tryz.func238, Tryz.ntmps238
  go_wp2
  go_ret2
  exact ⟨rfl, rfl⟩

/-- The quotient by 10^19 through its reciprocal: the guess is at most, and less than three below. -/
theorem guess_d (x1 x0 t q : Nat) (h1 : x1 < 10000000000000000000) (h0 : x0 < 18446744073709551616) (ht : 18446744073709551616 * t ≤ 15581492618384294730 * x1 + x0) (ht' : 15581492618384294730 * x1 + x0 < 18446744073709551616 * t + 18446744073709551616) (hq : q = t + x1) :
    10000000000000000000 * q ≤ x1 * 18446744073709551616 + x0 ∧ x1 * 18446744073709551616 + x0 < 10000000000000000000 * q + 28446744073709551616 := by
  omega
end Go.Proofs.YteokhhepnoelhaaGreatDoor
