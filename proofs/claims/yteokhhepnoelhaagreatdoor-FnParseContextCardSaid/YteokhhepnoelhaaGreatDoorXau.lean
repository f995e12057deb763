/-
  From setString to impl.Parse at the texts of infinities and of what is no number.
-/
import Derived.Test.YteokhhepnoelhaaGreatDoorXaq
import Derived.Test.YteokhhepnoelhaaGreatDoorXao
import Derived.Test.YteokhhepnoelhaaGreatDoorXat
set_option linter.unusedVariables false
set_option linter.unusedSimpArgs false
namespace Go.Proofs.YteokhhepnoelhaaGreatDoor
open Go.RowKit
abbrev condArr : Value := .agg #[.int .u32 4, .int .u32 8, .int .u32 16, .int .u32 32, .int .u32 64, .int .u32 128, .int .u32 256, .int .u32 512, .int .u32 1024, .int .u32 2048, .int .u32 1, .int .u32 2]
set_option maxRecDepth 100000 in
set_option maxHeartbeats 1000000 in
theorem conditions_0 (w : World) : Calls Tryz.prog 24 #[.int .u32 0] w fun e w' => e = .returned (.int .i64 0) ∧ w = w' := by
 have i0 : ∀ w, (Instr.index 86 condArr (.int .i64 0)).run Tryz.prog w = .ok (.int .u32 4) w := fun _ => by kernel_rfl
 have i1 : ∀ w, (Instr.index 86 condArr (.int .i64 1)).run Tryz.prog w = .ok (.int .u32 8) w := fun _ => by kernel_rfl
 have i2 : ∀ w, (Instr.index 86 condArr (.int .i64 2)).run Tryz.prog w = .ok (.int .u32 16) w := fun _ => by kernel_rfl
 have i3 : ∀ w, (Instr.index 86 condArr (.int .i64 3)).run Tryz.prog w = .ok (.int .u32 32) w := fun _ => by kernel_rfl
 have i4 : ∀ w, (Instr.index 86 condArr (.int .i64 4)).run Tryz.prog w = .ok (.int .u32 64) w := fun _ => by kernel_rfl
 have i5 : ∀ w, (Instr.index 86 condArr (.int .i64 5)).run Tryz.prog w = .ok (.int .u32 128) w := fun _ => by kernel_rfl
 have i6 : ∀ w, (Instr.index 86 condArr (.int .i64 6)).run Tryz.prog w = .ok (.int .u32 256) w := fun _ => by kernel_rfl
 have i7 : ∀ w, (Instr.index 86 condArr (.int .i64 7)).run Tryz.prog w = .ok (.int .u32 512) w := fun _ => by kernel_rfl
 have i8 : ∀ w, (Instr.index 86 condArr (.int .i64 8)).run Tryz.prog w = .ok (.int .u32 1024) w := fun _ => by kernel_rfl
 have i9 : ∀ w, (Instr.index 86 condArr (.int .i64 9)).run Tryz.prog w = .ok (.int .u32 2048) w := fun _ => by kernel_rfl
 have i10 : ∀ w, (Instr.index 86 condArr (.int .i64 10)).run Tryz.prog w = .ok (.int .u32 1) w := fun _ => by kernel_rfl
 have i11 : ∀ w, (Instr.index 86 condArr (.int .i64 11)).run Tryz.prog w = .ok (.int .u32 2) w := fun _ => by kernel_rfl
 go_enter Tryz.func24, Tryz.ntmps24;go_wp2
 go_rounds 13
 go_ret;exact ⟨rfl, rfl⟩
theorem var_keep {w w' : World} {n : String} {g : Nat} {cs : Array Value} (hg : Tryz.prog.globalNamed n = some g) (hb : Below w.heap.size w w') (hlt : g < w.heap.size) (hv : w.var? Tryz.prog n = some cs) : w'.var? Tryz.prog n = some cs := by
 unfold World.var? at hv ⊢;simp only [hg, Option.bind_some] at hv ⊢;rw [hb.block g hlt];exact hv
end Go.Proofs.YteokhhepnoelhaaGreatDoor
