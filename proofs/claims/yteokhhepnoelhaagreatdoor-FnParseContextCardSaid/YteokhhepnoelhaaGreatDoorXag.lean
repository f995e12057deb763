/-
  '==' and '!=' of pointers, at this program's types.
-/
import Derived.Test.YteokhhepnoelhaaGreatDoorXac
import Derived.LaidEqlPtr
import Derived.KernelRfl
set_option linter.unusedVariables false
set_option linter.unusedSimpArgs false
namespace Go.Proofs.YteokhhepnoelhaaGreatDoor
open Go.RowKit
section
variable {P : Program} (w : World)
theorem run_neq_ptr_same {tp te : TypeId} {j : TypeInfo} (a : Addr) (hp : P.underlying tp = some (.pointer te)) (hte : P.info? te = some j) :
 (binOp .neq tp (.pointer (some a)) (.pointer (some a))).run P w = .ok (.bool false) w := by
 have h : ∀ d : Nat, (Op.equalIn (d + 1) tp (.pointer (some a)) (.pointer (some a))).run P w = .ok true w := fun d => by
  simp [Op.equalIn, run_underlying hp, sizeOf, typeInfo, hte, run_sameAddr_same]
 simp only [binOp];simp [Op.equal, Op.maxDepth, h 9999]
theorem run_neq_ptr_other {tp te : TypeId} {j : TypeInfo} {a b : Addr} {ca cb : Array Value} {ta tb : TypeId} (hp : P.underlying tp = some (.pointer te)) (hte : P.info? te = some j) (hsz : j.size ≠ 0)
 (hne : a ≠ b) (ha : w.heap[a.block]? = some (.cells ca ta (0, 0))) (hb : w.heap[b.block]? = some (.cells cb tb (0, 0))) :
 (binOp .neq tp (.pointer (some a)) (.pointer (some b))).run P w = .ok (.bool true) w := by
 have h : ∀ d : Nat, (Op.equalIn (d + 1) tp (.pointer (some a)) (.pointer (some b))).run P w = .ok false w := fun d => by
  simp [Op.equalIn, run_underlying hp, sizeOf, typeInfo, hte, hsz, run_sameAddr_other w hne ha hb]
 simp only [binOp];simp [Op.equal, Op.maxDepth, h 9999]
end
theorem info72 : ∃ j, Tryz.prog.info? 72 = some j ∧ j.size ≠ 0 := by
 have h : (Tryz.prog.info? 72).map (fun i => i.size) = some 6 := by kernel_rfl
 obtain ⟨j, hj, hs⟩ := Option.map_eq_some_iff.1 h;exact ⟨j, hj, by rw [hs]; decide⟩
theorem info68 : ∃ j, Tryz.prog.info? 68 = some j ∧ j.size ≠ 0 := by
 have h : (Tryz.prog.info? 68).map (fun i => i.size) = some 2 := by kernel_rfl
 obtain ⟨j, hj, hs⟩ := Option.map_eq_some_iff.1 h;exact ⟨j, hj, by rw [hs]; decide⟩
theorem eql51_same (a : Addr) (w : World) : (binOp .eql 51 (.pointer (some a)) (.pointer (some a))).run Tryz.prog w = .ok (.bool true) w := by
 obtain ⟨j, hj, _⟩ := info72;exact run_eql_ptr_same w a Tryz.underlying51 hj
theorem neq102_same (a : Addr) (w : World) : (binOp .neq 102 (.pointer (some a)) (.pointer (some a))).run Tryz.prog w = .ok (.bool false) w := by
 obtain ⟨j, hj, _⟩ := info68;exact run_neq_ptr_same w a Tryz.underlying102 hj
theorem neq102_other {a b : Addr} {ca cb : Array Value} {ta tb : TypeId} (w : World) (hne : a ≠ b) (ha : w.heap[a.block]? = some (.cells ca ta (0, 0))) (hb : w.heap[b.block]? = some (.cells cb tb (0, 0))) :
 (binOp .neq 102 (.pointer (some a)) (.pointer (some b))).run Tryz.prog w = .ok (.bool true) w := by
 obtain ⟨j, hj, hz⟩ := info68;exact run_neq_ptr_other w Tryz.underlying102 hj hz hne ha hb
end Go.Proofs.YteokhhepnoelhaaGreatDoor
namespace Go.Proofs.YteokhhepnoelhaaGreatDoor
open Go.RowKit
def quoOk (bl : Nat) : Bool :=
 match FloatKind.f64.format.div (FloatKind.f64.nearest (bl : Int)) 4614662735865160561 with
 | some q => decide ((FloatKind.f64.decode q).toInt .zero = some ((bl * 30103 / 100000 : Nat) : Int))
 | none => false
theorem quoAll : (List.range 300).all quoOk = true := by kernel_rfl
theorem conv_run (bl : Nat) (w : World) : (convert 3 220 (.int .i64 bl)).run Tryz.prog w = .ok (.float .f64 (FloatKind.f64.nearest (bl : Int))) w := by kernel_rfl
theorem quo_step (x y : Nat) (w : World) : (binOp .quo 220 (.float .f64 x) (.float .f64 y)).run Tryz.prog w = (Op.floatArith .quo .f64 x y).run Tryz.prog w := by kernel_rfl
theorem back_step (x : Nat) (w : World) : (convert 220 3 (.float .f64 x)).run Tryz.prog w = (Conv.floatToInt .f64 x .i64).run Tryz.prog w := by kernel_rfl
theorem places_run (bl : Nat) (h : bl < 300) : ∃ q, (∀ w, (binOp .quo 220 (.float .f64 (FloatKind.f64.nearest (bl : Int))) (.float .f64 4614662735865160561)).run Tryz.prog w = .ok (.float .f64 q) w) ∧
 ∀ w, (convert 220 3 (.float .f64 q)).run Tryz.prog w = .ok (.int .i64 ((bl * 30103 / 100000 : Nat) : Int)) w := by
 have hq := List.all_eq_true.1 quoAll bl (by simpa using h);unfold quoOk at hq;cases hd : FloatKind.f64.format.div (FloatKind.f64.nearest (bl : Int)) 4614662735865160561 with
 | none => rw [hd] at hq; cases hq
 | some q =>
  rw [hd] at hq;have hq := of_decide_eq_true hq;refine ⟨q, fun w => ?_, fun w => ?_⟩;· rw [quo_step];simp [Op.floatArith, hd]
  · rw [back_step];have h1 : IntKind.min .i64 ≤ ((bl * 30103 / 100000 : Nat) : Int) ∧ ((bl * 30103 / 100000 : Nat) : Int) ≤ IntKind.max .i64 := by
     have e1 : IntKind.min .i64 = -9223372036854775808 := by kernel_rfl
     have e2 : IntKind.max .i64 = 9223372036854775807 := by kernel_rfl
     rw [e1, e2]; omega
    unfold Conv.floatToInt;rw [hq];simp only [h1, and_self, if_true];rfl
set_option maxRecDepth 100000 in
set_option maxHeartbeats 400000 in
theorem abs_10 (w : World) : Calls Tryz.prog 180 #[.float .f64 4621819117588971520] w fun e w' => e = .returned (.float .f64 4614662735865160561) ∧ w = w' := by
 have b1 : ∀ w : World, (callFunc 304 #[.float .f64 4621819117588971520]).run Tryz.prog w = .ok (.value (.int .u64 4621819117588971520)) w := fun w => by kernel_rfl
 have b2 : ∀ w : World, (callFunc 305 #[.int .u64 4621819117588971520]).run Tryz.prog w = .ok (.value (.float .f64 4621819117588971520)) w := fun w => by kernel_rfl
 have b3 : ∀ w : World, (callFunc 305 #[.int .u64 4603804719079489536]).run Tryz.prog w = .ok (.value (.float .f64 4603804719079489536)) w := fun w => by kernel_rfl
 have b4 : ∀ w : World, (callFunc 304 #[.float .f64 4603804719079489536]).run Tryz.prog w = .ok (.value (.int .u64 4603804719079489536)) w := fun w => by kernel_rfl
 have e1 : bits .andNot .u64 4621819117588971520 9223372036854775808 = 4621819117588971520 := by kernel_rfl
 have e2 : bits .andNot .u64 4603804719079489536 9223372036854775808 = 4603804719079489536 := by kernel_rfl
 have e3 : bits .and .u64 1026 2047 = 1026 := by kernel_rfl
 have e4 : bits .andNot .u64 4621819117588971520 9218868437227405312 = 1125899906842624 := by kernel_rfl
 have e5 : bits .or .u64 1125899906842624 4602678819172646912 = 4603804719079489536 := by kernel_rfl
 have e6 : bits .and .u64 1022 2047 = 1022 := by kernel_rfl
 have e7 : bits .andNot .u64 4603804719079489536 9218868437227405312 = 1125899906842624 := by kernel_rfl
 have b5 : ∀ w : World, (callFunc 285 #[.float .f64 4603804719079489536]).run Tryz.prog w = .ok (.value (.float .f64 13825510489450817230)) w := fun w => by kernel_rfl
 have f1 : ∀ w : World, (binOp .mul 220 (.float .f64 13825510489450817230) (.float .f64 4609176140021203710)).run Tryz.prog w = .ok (.float .f64 13827654785158443579) w := fun w => by kernel_rfl
 have f2 : ∀ w : World, (convert 3 220 (.int .i64 4)).run Tryz.prog w = .ok (.float .f64 4616189618054758400) w := fun w => by kernel_rfl
 have f3 : ∀ w : World, (binOp .add 220 (.float .f64 13827654785158443579) (.float .f64 4616189618054758400)).run Tryz.prog w = .ok (.float .f64 4614662735865160561) w := fun w => by kernel_rfl
 go_enter Tryz.func180, Tryz.ntmps180;go_wp2
 go_ret;exact ⟨rfl, rfl⟩
theorem maxPow10 (w : World) : Calls Tryz.prog 184 #[.int .u64 10] w fun e w' => e = .returned (.tuple #[.int .u64 10000000000000000000, .int .i64 19]) ∧ w = w' := by
 go_enter Tryz.func184, Tryz.ntmps184;go_wp2
 go_rounds 20
 go_ret2;exact ⟨rfl, rfl⟩
theorem pow10_0 (w : World) : Calls Tryz.prog 226 #[.int .u64 10, .int .i64 0] w fun e w' => e = .returned (.int .u64 1) ∧ w = w' := by
 go_enter Tryz.func226, Tryz.ntmps226;go_wp2
 go_rounds 7
 go_ret;exact ⟨rfl, rfl⟩
theorem pow10_1 (w : World) : Calls Tryz.prog 226 #[.int .u64 10, .int .i64 1] w fun e w' => e = .returned (.int .u64 10) ∧ w = w' := by
 have b1 : (bits BinOp.and IntKind.i64 1 1 != 0) = true := by decide
 go_enter Tryz.func226, Tryz.ntmps226;go_wp2
 go_rounds 7
 go_ret;exact ⟨rfl, rfl⟩
theorem pow10_2 (w : World) : Calls Tryz.prog 226 #[.int .u64 10, .int .i64 2] w fun e w' => e = .returned (.int .u64 100) ∧ w = w' := by
 have b2 : (bits BinOp.and IntKind.i64 2 1 != 0) = false := by decide
 have b1 : (bits BinOp.and IntKind.i64 1 1 != 0) = true := by decide
 go_enter Tryz.func226, Tryz.ntmps226;go_wp2
 go_rounds 7
 go_ret;exact ⟨rfl, rfl⟩
theorem pow10_3 (w : World) : Calls Tryz.prog 226 #[.int .u64 10, .int .i64 3] w fun e w' => e = .returned (.int .u64 1000) ∧ w = w' := by
 have b3 : (bits BinOp.and IntKind.i64 3 1 != 0) = true := by decide
 have b1 : (bits BinOp.and IntKind.i64 1 1 != 0) = true := by decide
 go_enter Tryz.func226, Tryz.ntmps226;go_wp2
 go_rounds 7
 go_ret;exact ⟨rfl, rfl⟩
theorem pow10_4 (w : World) : Calls Tryz.prog 226 #[.int .u64 10, .int .i64 4] w fun e w' => e = .returned (.int .u64 10000) ∧ w = w' := by
 have b4 : (bits BinOp.and IntKind.i64 4 1 != 0) = false := by decide
 have b2 : (bits BinOp.and IntKind.i64 2 1 != 0) = false := by decide
 have b1 : (bits BinOp.and IntKind.i64 1 1 != 0) = true := by decide
 go_enter Tryz.func226, Tryz.ntmps226;go_wp2
 go_rounds 7
 go_ret;exact ⟨rfl, rfl⟩
theorem pow10_5 (w : World) : Calls Tryz.prog 226 #[.int .u64 10, .int .i64 5] w fun e w' => e = .returned (.int .u64 100000) ∧ w = w' := by
 have b5 : (bits BinOp.and IntKind.i64 5 1 != 0) = true := by decide
 have b2 : (bits BinOp.and IntKind.i64 2 1 != 0) = false := by decide
 have b1 : (bits BinOp.and IntKind.i64 1 1 != 0) = true := by decide
 go_enter Tryz.func226, Tryz.ntmps226;go_wp2
 go_rounds 7
 go_ret;exact ⟨rfl, rfl⟩
theorem pow10_6 (w : World) : Calls Tryz.prog 226 #[.int .u64 10, .int .i64 6] w fun e w' => e = .returned (.int .u64 1000000) ∧ w = w' := by
 have b6 : (bits BinOp.and IntKind.i64 6 1 != 0) = false := by decide
 have b3 : (bits BinOp.and IntKind.i64 3 1 != 0) = true := by decide
 have b1 : (bits BinOp.and IntKind.i64 1 1 != 0) = true := by decide
 go_enter Tryz.func226, Tryz.ntmps226;go_wp2
 go_rounds 7
 go_ret;exact ⟨rfl, rfl⟩
theorem pow10_7 (w : World) : Calls Tryz.prog 226 #[.int .u64 10, .int .i64 7] w fun e w' => e = .returned (.int .u64 10000000) ∧ w = w' := by
 have b7 : (bits BinOp.and IntKind.i64 7 1 != 0) = true := by decide
 have b3 : (bits BinOp.and IntKind.i64 3 1 != 0) = true := by decide
 have b1 : (bits BinOp.and IntKind.i64 1 1 != 0) = true := by decide
 go_enter Tryz.func226, Tryz.ntmps226;go_wp2
 go_rounds 7
 go_ret;exact ⟨rfl, rfl⟩
theorem pow10_8 (w : World) : Calls Tryz.prog 226 #[.int .u64 10, .int .i64 8] w fun e w' => e = .returned (.int .u64 100000000) ∧ w = w' := by
 have b8 : (bits BinOp.and IntKind.i64 8 1 != 0) = false := by decide
 have b4 : (bits BinOp.and IntKind.i64 4 1 != 0) = false := by decide
 have b2 : (bits BinOp.and IntKind.i64 2 1 != 0) = false := by decide
 have b1 : (bits BinOp.and IntKind.i64 1 1 != 0) = true := by decide
 go_enter Tryz.func226, Tryz.ntmps226;go_wp2
 go_rounds 7
 go_ret;exact ⟨rfl, rfl⟩
theorem pow10_9 (w : World) : Calls Tryz.prog 226 #[.int .u64 10, .int .i64 9] w fun e w' => e = .returned (.int .u64 1000000000) ∧ w = w' := by
 have b9 : (bits BinOp.and IntKind.i64 9 1 != 0) = true := by decide
 have b4 : (bits BinOp.and IntKind.i64 4 1 != 0) = false := by decide
 have b2 : (bits BinOp.and IntKind.i64 2 1 != 0) = false := by decide
 have b1 : (bits BinOp.and IntKind.i64 1 1 != 0) = true := by decide
 go_enter Tryz.func226, Tryz.ntmps226;go_wp2
 go_rounds 7
 go_ret;exact ⟨rfl, rfl⟩
theorem pow10_10 (w : World) : Calls Tryz.prog 226 #[.int .u64 10, .int .i64 10] w fun e w' => e = .returned (.int .u64 10000000000) ∧ w = w' := by
 have b10 : (bits BinOp.and IntKind.i64 10 1 != 0) = false := by decide
 have b5 : (bits BinOp.and IntKind.i64 5 1 != 0) = true := by decide
 have b2 : (bits BinOp.and IntKind.i64 2 1 != 0) = false := by decide
 have b1 : (bits BinOp.and IntKind.i64 1 1 != 0) = true := by decide
 go_enter Tryz.func226, Tryz.ntmps226;go_wp2
 go_rounds 7
 go_ret;exact ⟨rfl, rfl⟩
theorem pow10_11 (w : World) : Calls Tryz.prog 226 #[.int .u64 10, .int .i64 11] w fun e w' => e = .returned (.int .u64 100000000000) ∧ w = w' := by
 have b11 : (bits BinOp.and IntKind.i64 11 1 != 0) = true := by decide
 have b5 : (bits BinOp.and IntKind.i64 5 1 != 0) = true := by decide
 have b2 : (bits BinOp.and IntKind.i64 2 1 != 0) = false := by decide
 have b1 : (bits BinOp.and IntKind.i64 1 1 != 0) = true := by decide
 go_enter Tryz.func226, Tryz.ntmps226;go_wp2
 go_rounds 7
 go_ret;exact ⟨rfl, rfl⟩
theorem pow10_12 (w : World) : Calls Tryz.prog 226 #[.int .u64 10, .int .i64 12] w fun e w' => e = .returned (.int .u64 1000000000000) ∧ w = w' := by
 have b12 : (bits BinOp.and IntKind.i64 12 1 != 0) = false := by decide
 have b6 : (bits BinOp.and IntKind.i64 6 1 != 0) = false := by decide
 have b3 : (bits BinOp.and IntKind.i64 3 1 != 0) = true := by decide
 have b1 : (bits BinOp.and IntKind.i64 1 1 != 0) = true := by decide
 go_enter Tryz.func226, Tryz.ntmps226;go_wp2
 go_rounds 7
 go_ret;exact ⟨rfl, rfl⟩
theorem pow10_13 (w : World) : Calls Tryz.prog 226 #[.int .u64 10, .int .i64 13] w fun e w' => e = .returned (.int .u64 10000000000000) ∧ w = w' := by
 have b13 : (bits BinOp.and IntKind.i64 13 1 != 0) = true := by decide
 have b6 : (bits BinOp.and IntKind.i64 6 1 != 0) = false := by decide
 have b3 : (bits BinOp.and IntKind.i64 3 1 != 0) = true := by decide
 have b1 : (bits BinOp.and IntKind.i64 1 1 != 0) = true := by decide
 go_enter Tryz.func226, Tryz.ntmps226;go_wp2
 go_rounds 7
 go_ret;exact ⟨rfl, rfl⟩
theorem pow10_14 (w : World) : Calls Tryz.prog 226 #[.int .u64 10, .int .i64 14] w fun e w' => e = .returned (.int .u64 100000000000000) ∧ w = w' := by
 have b14 : (bits BinOp.and IntKind.i64 14 1 != 0) = false := by decide
 have b7 : (bits BinOp.and IntKind.i64 7 1 != 0) = true := by decide
 have b3 : (bits BinOp.and IntKind.i64 3 1 != 0) = true := by decide
 have b1 : (bits BinOp.and IntKind.i64 1 1 != 0) = true := by decide
 go_enter Tryz.func226, Tryz.ntmps226;go_wp2
 go_rounds 7
 go_ret;exact ⟨rfl, rfl⟩
theorem pow10_15 (w : World) : Calls Tryz.prog 226 #[.int .u64 10, .int .i64 15] w fun e w' => e = .returned (.int .u64 1000000000000000) ∧ w = w' := by
 have b15 : (bits BinOp.and IntKind.i64 15 1 != 0) = true := by decide
 have b7 : (bits BinOp.and IntKind.i64 7 1 != 0) = true := by decide
 have b3 : (bits BinOp.and IntKind.i64 3 1 != 0) = true := by decide
 have b1 : (bits BinOp.and IntKind.i64 1 1 != 0) = true := by decide
 go_enter Tryz.func226, Tryz.ntmps226;go_wp2
 go_rounds 7
 go_ret;exact ⟨rfl, rfl⟩
theorem pow10_16 (w : World) : Calls Tryz.prog 226 #[.int .u64 10, .int .i64 16] w fun e w' => e = .returned (.int .u64 10000000000000000) ∧ w = w' := by
 have b16 : (bits BinOp.and IntKind.i64 16 1 != 0) = false := by decide
 have b8 : (bits BinOp.and IntKind.i64 8 1 != 0) = false := by decide
 have b4 : (bits BinOp.and IntKind.i64 4 1 != 0) = false := by decide
 have b2 : (bits BinOp.and IntKind.i64 2 1 != 0) = false := by decide
 have b1 : (bits BinOp.and IntKind.i64 1 1 != 0) = true := by decide
 go_enter Tryz.func226, Tryz.ntmps226;go_wp2
 go_rounds 7
 go_ret;exact ⟨rfl, rfl⟩
theorem pow10_17 (w : World) : Calls Tryz.prog 226 #[.int .u64 10, .int .i64 17] w fun e w' => e = .returned (.int .u64 100000000000000000) ∧ w = w' := by
 have b17 : (bits BinOp.and IntKind.i64 17 1 != 0) = true := by decide
 have b8 : (bits BinOp.and IntKind.i64 8 1 != 0) = false := by decide
 have b4 : (bits BinOp.and IntKind.i64 4 1 != 0) = false := by decide
 have b2 : (bits BinOp.and IntKind.i64 2 1 != 0) = false := by decide
 have b1 : (bits BinOp.and IntKind.i64 1 1 != 0) = true := by decide
 go_enter Tryz.func226, Tryz.ntmps226;go_wp2
 go_rounds 7
 go_ret;exact ⟨rfl, rfl⟩
theorem pow10_18 (w : World) : Calls Tryz.prog 226 #[.int .u64 10, .int .i64 18] w fun e w' => e = .returned (.int .u64 1000000000000000000) ∧ w = w' := by
 have b18 : (bits BinOp.and IntKind.i64 18 1 != 0) = false := by decide
 have b9 : (bits BinOp.and IntKind.i64 9 1 != 0) = true := by decide
 have b4 : (bits BinOp.and IntKind.i64 4 1 != 0) = false := by decide
 have b2 : (bits BinOp.and IntKind.i64 2 1 != 0) = false := by decide
 have b1 : (bits BinOp.and IntKind.i64 1 1 != 0) = true := by decide
 go_enter Tryz.func226, Tryz.ntmps226;go_wp2
 go_rounds 7
 go_ret;exact ⟨rfl, rfl⟩
theorem pow10_19 (w : World) : Calls Tryz.prog 226 #[.int .u64 10, .int .i64 19] w fun e w' => e = .returned (.int .u64 10000000000000000000) ∧ w = w' := by
 have b19 : (bits BinOp.and IntKind.i64 19 1 != 0) = true := by decide
 have b9 : (bits BinOp.and IntKind.i64 9 1 != 0) = true := by decide
 have b4 : (bits BinOp.and IntKind.i64 4 1 != 0) = false := by decide
 have b2 : (bits BinOp.and IntKind.i64 2 1 != 0) = false := by decide
 have b1 : (bits BinOp.and IntKind.i64 1 1 != 0) = true := by decide
 go_enter Tryz.func226, Tryz.ntmps226;go_wp2
 go_rounds 7
 go_ret;exact ⟨rfl, rfl⟩
theorem pow10_any (n : Nat) (hn : n < 20) (w : World) : Calls Tryz.prog 226 #[.int .u64 10, .int .i64 (n : Int)] w fun e w' => e = .returned (.int .u64 ((10 ^ n : Nat) : Int)) ∧ w = w' := by
 match n, hn with
 | 0, _ => exact pow10_0 w
 | 1, _ => exact pow10_1 w
 | 2, _ => exact pow10_2 w
 | 3, _ => exact pow10_3 w
 | 4, _ => exact pow10_4 w
 | 5, _ => exact pow10_5 w
 | 6, _ => exact pow10_6 w
 | 7, _ => exact pow10_7 w
 | 8, _ => exact pow10_8 w
 | 9, _ => exact pow10_9 w
 | 10, _ => exact pow10_10 w
 | 11, _ => exact pow10_11 w
 | 12, _ => exact pow10_12 w
 | 13, _ => exact pow10_13 w
 | 14, _ => exact pow10_14 w
 | 15, _ => exact pow10_15 w
 | 16, _ => exact pow10_16 w
 | 17, _ => exact pow10_17 w
 | 18, _ => exact pow10_18 w
 | 19, _ => exact pow10_19 w
 | n + 20, h => exact absurd h (by omega)
end Go.Proofs.YteokhhepnoelhaaGreatDoor
