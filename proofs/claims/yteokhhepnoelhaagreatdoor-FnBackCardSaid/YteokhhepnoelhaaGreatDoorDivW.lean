/-
  Division of one word by another; the leading zeros of 10^19.
-/
import Derived.Test.YteokhhepnoelhaaGreatDoorNatB
import Derived.Test.YteokhhepnoelhaaGreatDoorShelfBits
import Derived.Deep.QuietTactic
import Derived.BigQuiet
set_option linter.unusedVariables false
set_option linter.unusedSimpArgs false
namespace Go.Proofs.YteokhhepnoelhaaGreatDoor
open Go.RowKit

set_option maxRecDepth 100000 in
set_option maxHeartbeats 1000000 in
theorem bitsDiv_zero (x d : Nat) (hx : x < 18446744073709551616) (hd : 0 < d) (hd' : d < 18446744073709551616) (w : World) :
    Calls Tryz.prog 271 #[.int .u64 0, .int .u64 (x : Int), .int .u64 (d : Int)] w fun e w' => e = .returned (.tuple #[.int .u64 ((x / d : Nat) : Int), .int .u64 ((x % d : Nat) : Int)]) ∧ Fr NoB w w' := by
  have hd0 : ((d : Int) == 0) = false := by simp; omega
  have hd1 : ¬ ((d : Int) ≤ 0) := by omega
  have hd2 : ¬ (d : Int) = 0 := by omega
  have hq : x / d ≤ x := Nat.div_le_self _ _
  have hwr : IntKind.u64.wrap ((x : Int) / (d : Int)) = ((x / d : Nat) : Int) := by
    rw [show ((x : Int) / (d : Int)) = ((x / d : Nat) : Int) by simp]
    generalize x / d = q at *
    have e : ∀ n : Int, IntKind.u64.wrap n = n % 18446744073709551616 := fun n => by kernel_rfl
    rw [e]; omega
  have HW := hid hwr
  clear hwr hq
  go_enter Tryz.func271, Tryz.ntmps271
  go_wp2_with (go_at_call 299; go_in)
  go_quiet (fail)
  go_wp2_with fail
  go_ret2
  refine ⟨?_, ?_⟩
  · rw [HW.out]; simp
  · exact (Fr.refl _ _).drewN _

theorem nlz_d (w : World) : Calls Tryz.prog 243 #[.int .u64 10000000000000000000] w fun e w' => e = .returned (.int .u64 0) ∧ w = w' := by
  have hb : Lib.bitLen (10000000000000000000 : Int).toNat = 64 := by decide +kernel
  have HB := hid hb
  clear hb
  go_enter Tryz.func243, Tryz.ntmps243
  go_wp2_with (go_at_call 276; refine (Tryz.bits_LeadingZeros _ _ (by omega) (by omega)).mono ?_; rintro e w1 ⟨rfl, rfl⟩; rw [HB.out])
  go_ret
  exact ⟨rfl, rfl⟩

end Go.Proofs.YteokhhepnoelhaaGreatDoor
