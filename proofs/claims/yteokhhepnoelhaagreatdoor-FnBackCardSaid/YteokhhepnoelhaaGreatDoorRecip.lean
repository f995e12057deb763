/-
  The reciprocal of 10^19.
-/
import Derived.Test.YteokhhepnoelhaaGreatDoorDivW
set_option linter.unusedVariables false
set_option linter.unusedSimpArgs false
namespace Go.Proofs.YteokhhepnoelhaaGreatDoor
open Go.RowKit
theorem lz64_d (w : World) : Calls Tryz.prog 318 #[.int .u64 10000000000000000000] w fun e w' => e = .returned (.int .i64 0) ∧ w = w' := by
  have k : wrap64 (64 - wrap64 (56 + wrap64 (Lib.len8 138))) = 0 := by kernel_rfl
  have K := hid k
  clear k
  go_enter Tryz.func318, Tryz.ntmps318
  go_wp2_with (go_at_call 223; go_in)
  go_ret
  refine ⟨?_, rfl⟩
  show Ending.returned (.int .i64 (wrap64 (64 - wrap64 (56 + wrap64 (Lib.len8 138))))) = _
  rw [K.out]

set_option maxRecDepth 100000 in
set_option maxHeartbeats 1000000 in
theorem div_d (w : World) : Calls Tryz.prog 271 #[.int .u64 8446744073709551615, .int .u64 18446744073709551615, .int .u64 10000000000000000000] w fun e w' => (∃ r, e = .returned (.tuple #[.int .u64 15581492618384294730, r])) ∧ Fr NoB w w' := by
  have e1 : bits .and .u64 10000000000000000000 4294967295 = 2313682944 := by kernel_rfl
  have e2 : bits .and .u64 18446744073709551615 4294967295 = 4294967295 := by kernel_rfl
  have e3 : bits .or .u64 8446744073709551615 0 = 8446744073709551615 := by kernel_rfl
  go_enter Tryz.func271, Tryz.ntmps271
  go_wp2_with (first | (go_at_call 299; go_in) | (go_at_call 318; refine (lz64_d _).mono ?_; rintro e w1 ⟨rfl, rfl⟩))
  go_rounds 3
  go_rounds 3
  go_ret2
  exact ⟨⟨_, rfl⟩, Fr.refl _ _⟩

set_option maxRecDepth 100000 in
set_option maxHeartbeats 1000000 in
theorem recip_d (w : World) : Calls Tryz.prog 272 #[.int .u64 10000000000000000000] w fun e w' => e = .returned (.int .u64 15581492618384294730) ∧ Fr NoB w w' := by
  have x1 : bits .xor .u64 IntKind.u64.max 10000000000000000000 = 8446744073709551615 := by kernel_rfl
  go_enter Tryz.func272, Tryz.ntmps272
  go_wp2_with (go_at_call 243; refine (nlz_d _).mono ?_; rintro e w1 ⟨rfl, rfl⟩)
  refine (div_d _).mono ?_
  rintro e w1 ⟨⟨r, rfl⟩, hF⟩
  go_wp2_with fail
  go_ret
  exact ⟨rfl, hF⟩
end Go.Proofs.YteokhhepnoelhaaGreatDoor
