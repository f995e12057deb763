/-
  From setString to impl.Parse at the texts of infinities and of what is no number.
-/
import Derived.Test.YteokhhepnoelhaaGreatDoorSpec1
import Derived.Test.YteokhhepnoelhaaGreatDoorRound0
set_option linter.unusedVariables false
set_option linter.unusedSimpArgs false
namespace Go.Proofs.YteokhhepnoelhaaGreatDoor
open Go.RowKit

theorem numDigits_zero (D : Nat) (f : Int) (n : Bool) (e0 : Int) (cn : Bool) (A : Option Addr) (kc : Nat) (m : Bool) (w : World) (hD : DecAt w D f n e0 cn (.slice A 0 kc) m) :
    Calls Tryz.prog 88 #[.pointer (some ⟨D, 0, none⟩)] w fun e w' => e = .returned (.int .i64 1) ∧ w = w' := by
  obtain ⟨⟨h0, h1, h2, h3, h4, h5⟩, f0, f1, f2, f3, f4, f5⟩ := hD.cells
  go_enter Tryz.func88, Tryz.ntmps88
  go_wp2
  go_ret
  exact ⟨rfl, rfl⟩

/-- What setString leaves, at SetString's call: as SpecialEnd. -/
theorem ctxSetString_special (D cb : Nat) (l : List UInt8) (F : Int) (neg : Bool) (w : World) (traps : Int) (r : ByteArray) (hC : CtxAt w cb 0 100000 (-100000) traps r) (hne : cb ≠ D)
    (hS : Calls Tryz.prog 41 #[.pointer (some ⟨D, 0, none⟩), .pointer (some ⟨cb, 0, none⟩), .string ⟨l.toArray⟩] w (SpecialEnd w D F neg)) :
    Calls Tryz.prog 30 #[.pointer (some ⟨cb, 0, none⟩), .pointer (some ⟨D, 0, none⟩), .string ⟨l.toArray⟩] w
      fun e w' => e = .returned (.tuple #[.pointer (some ⟨D, 0, none⟩), .int .u32 0, .nilIface]) ∧ DecAt w' D F neg 0 false (.slice none 0 0) false ∧ Fr (fun i => i = D) w w' := by
  have HC := hid hC; have HS := hid hS
  clear hC hS
  go_enter Tryz.func30, Tryz.ntmps30
  go_wp2_with fail
  refine HS.out.mono ?_
  rintro e w1 ⟨rfl, hD1, hF1⟩
  have HC1 := hid (HC.out.fr hF1 hne)
  have HD1 := hid hD1; have HF1 := hid hF1
  clear hD1 hF1
  go_wp2_with fail
  refine (round_zero D cb F neg 0 false none 0 0 false 1 w1 HD1.out traps r HC1.out (by omega) (by omega) (by omega) (by omega) (by omega) (by omega)
    ((numDigits_zero D F neg 0 false none 0 false w1 HD1.out).mono fun e w' ⟨he, hw⟩ => ⟨he, by subst hw; exact Fr.refl _ _⟩)).mono ?_
  rintro e w2 ⟨rfl, hD2, hF2⟩
  have HD2 := hid hD2; have HF2 := hid hF2
  clear hD2 hF2
  go_wp2_with (go_at_call 43; go_in)
  go_ret3
  exact ⟨rfl, HD2.out, HF1.out.trans HF2.out (fun _ _ h => h)⟩

abbrev condArr : Value := .agg #[.int .u32 4, .int .u32 8, .int .u32 16, .int .u32 32, .int .u32 64, .int .u32 128, .int .u32 256, .int .u32 512, .int .u32 1024, .int .u32 2048, .int .u32 1, .int .u32 2]

set_option maxRecDepth 100000 in
set_option maxHeartbeats 1000000 in
theorem conditions_0 (w : World) : Calls Tryz.prog 24 #[.int .u32 0] w fun e w' => e = .returned (.int .i64 0) ∧ w = w' := by
  have i0 : ∀ w, (Instr.index 86 condArr (.int .i64 0)).run Tryz.prog w = .ok (.int .u32 4) w := fun _ => by kernel_rfl
  have i1 : ∀ w, (Instr.index 86 condArr (.int .i64 1)).run Tryz.prog w = .ok (.int .u32 8) w := fun _ => by kernel_rfl
  have i2 : ∀ w, (Instr.index 86 condArr (.int .i64 2)).run Tryz.prog w = .ok (.int .u32 16) w := fun _ => by kernel_rfl
  have i3 : ∀ w, (Instr.index 86 condArr (.int .i64 3)).run Tryz.prog w = .ok (.int .u32 32) w := fun _ => by kernel_rfl
  have i4 : ∀ w, (Instr.index 86 condArr (.int .i64 4)).run Tryz.prog w = .ok (.int .u32 64) w := fun _ => by kernel_rfl
  have i5 : ∀ w, (Instr.index 86 condArr (.int .i64 5)).run Tryz.prog w = .ok (.int .u32 128) w := fun _ => by kernel_rfl
  have i6 : ∀ w, (Instr.index 86 condArr (.int .i64 6)).run Tryz.prog w = .ok (.int .u32 256) w := fun _ => by kernel_rfl
  have i7 : ∀ w, (Instr.index 86 condArr (.int .i64 7)).run Tryz.prog w = .ok (.int .u32 512) w := fun _ => by kernel_rfl
  have i8 : ∀ w, (Instr.index 86 condArr (.int .i64 8)).run Tryz.prog w = .ok (.int .u32 1024) w := fun _ => by kernel_rfl
  have i9 : ∀ w, (Instr.index 86 condArr (.int .i64 9)).run Tryz.prog w = .ok (.int .u32 2048) w := fun _ => by kernel_rfl
  have i10 : ∀ w, (Instr.index 86 condArr (.int .i64 10)).run Tryz.prog w = .ok (.int .u32 1) w := fun _ => by kernel_rfl
  have i11 : ∀ w, (Instr.index 86 condArr (.int .i64 11)).run Tryz.prog w = .ok (.int .u32 2) w := fun _ => by kernel_rfl
  go_enter Tryz.func24, Tryz.ntmps24
  go_wp2
  go_rounds 13
  go_ret
  exact ⟨rfl, rfl⟩

set_option maxRecDepth 100000 in
set_option maxHeartbeats 1000000 in
theorem told_special (D : Nat) (F : Int) (hFF : F = 1 ∨ F = 2 ∨ F = 3) (neg : Bool) (w : World) (hD : DecAt w D F neg 0 false (.slice none 0 0) false) :
    Calls Tryz.prog 25 #[.pointer (some ⟨D, 0, none⟩)] w fun e w' => e = .returned (.agg #[.int .i64 F, .bool neg, .slice none 0 0, .int .i64 0]) ∧ Fr NoB w w' := by
  obtain ⟨⟨h0, h1, h2, h3, h4, h5⟩, f0, f1, f2, f3, f4, f5⟩ := hD.cells
  have hlt := blk_lt hD
  clear hD
  rcases hFF with rfl | rfl | rfl
  all_goals
    go_enter Tryz.func25, Tryz.ntmps25
    go_wp2
    go_returns
    exact ⟨rfl, ((Fr.refl _ _).alloc _).alloc _⟩

set_option maxRecDepth 100000 in
set_option maxHeartbeats 1000000 in
theorem parse_special (l : List UInt8) (F : Int) (hFF : F = 1 ∨ F = 2 ∨ F = 3) (neg : Bool) (w : World) (r : ByteArray) (hC : CtxAt w 0 0 100000 (-100000) 1967 r)
    (hS : ∀ (D : Nat) (w1 : World), DecAt w1 D 0 false 0 false (.slice none 0 0) false → Fr NoB w w1 → w.heap.size ≤ D → Calls Tryz.prog 41 #[.pointer (some ⟨D, 0, none⟩), .pointer (some ⟨0, 0, none⟩), .string ⟨l.toArray⟩] w1 (SpecialEnd w1 D F neg)) :
    Calls Tryz.prog 9 #[.string ⟨l.toArray⟩] w
      fun e w' => e = .returned (.tuple #[.agg #[.int .i64 F, .bool neg, .slice none 0 0, .int .i64 0], .int .i64 0, .bool true]) ∧ Fr NoB w w' := by
  have HC := hid hC; have HS := hid hS
  clear hC hS
  have h0 : (0 : Nat) < w.heap.size := World.block_lt_of_cell? w ⟨0, 0, none⟩ HC.out.c0
  go_enter Tryz.func9, Tryz.ntmps9
  go_wp2_with (first | (go_at_call 23; go_in) | (go_at_call 37; go_in))
  have hR0 : ((w.alloc (.cells #[.int .i64 0, .bool false, .slice none 0 0, .int .i64 0] 30)).alloc (.cells #[.int .i8 0, .bool false, .int .i32 0, .bool false, .slice none 0 0, .bool false] 72)).heap[w.heap.size]? = some (.cells #[.int .i64 0, .bool false, .slice none 0 0, .int .i64 0] 30 (0, 0)) :=
    blk_alloc (blk_new w _) _
  have hD0 : DecAt ((w.alloc (.cells #[.int .i64 0, .bool false, .slice none 0 0, .int .i64 0] 30)).alloc (.cells #[.int .i8 0, .bool false, .int .i32 0, .bool false, .slice none 0 0, .bool false] 72)) (w.heap.size + 1) 0 false 0 false (.slice none 0 0) false := by
    have := blk_new (w.alloc (.cells #[.int .i64 0, .bool false, .slice none 0 0, .int .i64 0] 30)) (.cells #[.int .i8 0, .bool false, .int .i32 0, .bool false, .slice none 0 0, .bool false] 72 (0, 0))
    rw [World.size_alloc] at this
    exact this
  have hF0 : Fr NoB w ((w.alloc (.cells #[.int .i64 0, .bool false, .slice none 0 0, .int .i64 0] 30)).alloc (.cells #[.int .i8 0, .bool false, .int .i32 0, .bool false, .slice none 0 0, .bool false] 72)) :=
    ((Fr.refl _ _).alloc _).alloc _
  have HR0 := hid hR0; have HD0 := hid hD0; have HF0 := hid hF0
  clear hR0 hD0 hF0
  generalize hW : ((w.alloc (.cells #[.int .i64 0, .bool false, .slice none 0 0, .int .i64 0] 30)).alloc (.cells #[.int .i8 0, .bool false, .int .i32 0, .bool false, .slice none 0 0, .bool false] 72)) = W at *
  clear hW
  refine (ctxSetString_special (w.heap.size + 1) 0 l F neg W 1967 r (HC.out.fr HF0.out (fun h => h)) (by omega) (HS.out _ _ HD0.out HF0.out (by omega))).mono ?_
  rintro e w1 ⟨rfl, hD1, hF1⟩
  have HR1 := hid (hF1.blk HR0.out (by omega))
  have HD1 := hid hD1
  have HF1 := hid ((HF0.out.trans hF1 (fun i hi h => by omega) : Fr NoB w w1))
  clear hD1 hF1
  go_wp2_with fail
  refine (told_special _ F hFF neg _ HD1.out).mono ?_
  rintro e w2 ⟨rfl, hF2⟩
  have hR2 := hF2.blk HR1.out (fun h => h)
  have HF2 := hid (HF1.out.trans hF2 (fun _ _ h => h))
  have r0 := blk_cell hR2 0; have r1 := blk_cell hR2 1; have r2 := blk_cell hR2 2; have r3 := blk_cell hR2 3
  have g0 := blk_frozen hR2 0; have g1 := blk_frozen hR2 1; have g2 := blk_frozen hR2 2; have g3 := blk_frozen hR2 3
  clear hF2 hR2
  simp only [List.getElem?_toArray, List.getElem?_cons_zero, List.getElem?_cons_succ] at r0 r1 r2 r3
  go_wp2_with (go_at_call 24; refine (conditions_0 _).mono ?_; rintro e w3 ⟨rfl, rfl⟩)
  refine bodyPost_ret (v := .tuple #[.agg #[.int .i64 F, .bool neg, .slice none 0 0, .int .i64 0], .int .i64 0, .bool true]) (by simp [results, Tryz.results9, go_sem, r0, r1, r2, r3]) rfl ⟨rfl, ?_⟩
  have hS : ∀ i, w.heap.size ≤ i → i < w.heap.size → NoB i := fun i h h' => by omega
  exact (((HF2.out.setCell (fun h => hS _ (Nat.le_refl _) h) _).setCell (fun h => hS _ (Nat.le_refl _) h) _).setCell (fun h => hS _ (Nat.le_refl _) h) _).setCell (fun h => hS _ (Nat.le_refl _) h) _
end Go.Proofs.YteokhhepnoelhaaGreatDoor
