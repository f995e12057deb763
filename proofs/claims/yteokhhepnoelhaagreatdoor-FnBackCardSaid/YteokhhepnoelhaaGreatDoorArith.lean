/-
  Words of 64 bits: math/bits.Add, and x * y + c.
-/
import Derived.Test.YteokhhepnoelhaaGreatDoorBase
import Derived.Test.YteokhhepnoelhaaGreatDoorShelfBits
import Derived.Laws.Externs
import Derived.Shelf.Spec.BitsCarry
set_option linter.unusedVariables false
set_option linter.unusedSimpArgs false
namespace Go.Proofs.YteokhhepnoelhaaGreatDoor
open Go.RowKit

theorem run_add64_here (x y c : Nat) (hc : c ≤ 1) (w : World) :
    (callFunc 267 #[.int .u64 x, .int .u64 y, .int .u64 c]).run Tryz.prog w =
      .ok (.value (.tuple #[.int .u64 (((x + y + c) % 18446744073709551616 : Nat) : Int), .int .u64 (((x + y + c) / 18446744073709551616 : Nat) : Int)])) w := by
  rw [run_callFunc_extern Tryz.func267 (by kernel_rfl) (by kernel_rfl) (by kernel_rfl) (e := add64Entry) (by kernel_rfl), run_add64 x y c (by omega) (by omega) (by omega) (by omega)]
  simp only [Result.andThen]
  congr 5 <;> omega

theorem bitsAdd (x y c : Nat) (hc : c ≤ 1) (w : World) :
    Calls Tryz.prog 236 #[.int .u64 x, .int .u64 y, .int .u64 c] w fun e w' => e = .returned (.tuple #[.int .u64 (((x + y + c) % 18446744073709551616 : Nat) : Int), .int .u64 (((x + y + c) / 18446744073709551616 : Nat) : Int)]) ∧ w = w' := by
  have hr := fun w => run_add64_here x y c hc w
  generalize ((x + y + c) % 18446744073709551616) = s at *
  generalize ((x + y + c) / 18446744073709551616) = q at *
  go_enter Tryz.func236, Tryz.ntmps236
  go_wp2
  go_ret2
  exact ⟨rfl, rfl⟩

/-- 2^64, closed to the walk. -/
def WB : Nat := 18446744073709551616
theorem WB_eq : WB = 18446744073709551616 := rfl
theorem WB_pos : 0 < WB := by decide

theorem mulAddWWW_sum (x y c : Nat) (hx : x < WB) (hy : y < WB) (hc : c < WB) :
    x * y / WB + (x * y % WB + c + 0) / WB = (x * y + c) / WB ∧ (x * y % WB + c + 0) % WB = (x * y + c) % WB ∧ (x * y + c) / WB < WB := by
  have hle : x * y ≤ (WB - 1) * (WB - 1) := Nat.mul_le_mul (by omega) (by omega)
  have hW := WB_pos
  have e : x * y = WB * (x * y / WB) + x * y % WB := (Nat.div_add_mod _ _).symm
  generalize x * y / WB = q at *
  generalize x * y % WB = r at *
  refine ⟨?_, ?_, ?_⟩
  · rw [e, Nat.add_zero, Nat.add_assoc, Nat.mul_add_div hW]
  · rw [e, Nat.add_zero, Nat.add_assoc, Nat.mul_add_mod]
  · rw [Nat.div_lt_iff_lt_mul hW]
    have : (WB - 1) * (WB - 1) + WB ≤ WB * WB := by
      have : WB * WB = (WB - 1) * (WB - 1) + 2 * WB - 1 := by decide
      omega
    omega

theorem mulAddWWW (x y c : Nat) (hx : x < WB) (hy : y < WB) (hc : c < WB) (w : World) :
    Calls Tryz.prog 295 #[.int .u64 x, .int .u64 y, .int .u64 c] w fun e w' => e = .returned (.tuple #[.int .u64 (((x * y + c) / WB : Nat) : Int), .int .u64 (((x * y + c) % WB : Nat) : Int)]) ∧ w = w' := by
  obtain ⟨e1, e2, e3⟩ := mulAddWWW_sum x y c hx hy hc
  have M := hid (Tryz.bits_Mul x y hx hy w)
  have A := hid (bitsAdd (x * y % WB) c 0 (by omega) w)
  simp only [← WB_eq] at M A
  rw [← e1, ← e2]
  rw [← e1] at e3
  clear e1 e2
  generalize x * y / WB = hi at *
  generalize x * y % WB = lo at *
  generalize (lo + c + 0) % WB = s at *
  generalize (lo + c + 0) / WB = q at *
  have e4 : 0 ≤ (hi : Int) + (q : Int) ∧ (hi : Int) + (q : Int) ≤ 18446744073709551615 := by rw [WB_eq] at e3; omega
  clear e3
  have W1 : IntKind.u64.wrap ((hi : Int) + (q : Int)) = ((hi + q : Nat) : Int) := by
    rw [IntWalk.u64_in _ (by omega)]; omega
  have HW := hid W1
  clear e4 W1
  go_enter Tryz.func295, Tryz.ntmps295
  go_wp2_with fail
  refine M.out.mono fun e w' ⟨he, hw⟩ => ?_
  subst he; subst hw
  go_wp2_with fail
  refine A.out.mono fun e w' ⟨he, hw⟩ => ?_
  subst he; subst hw
  go_wp2_with fail
  go_ret2
  exact ⟨by rw [HW.out]; rfl, rfl⟩
end Go.Proofs.YteokhhepnoelhaaGreatDoor
