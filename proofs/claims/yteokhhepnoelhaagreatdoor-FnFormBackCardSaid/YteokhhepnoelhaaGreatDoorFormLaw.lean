/-
  The law FnFormBack: at every form and sign the call returns true and nothing old has changed.
-/
import Derived.Test.YteokhhepnoelhaaGreatDoorSpec3
set_option linter.unusedVariables false
set_option linter.unusedSimpArgs false
namespace Go.Proofs.YteokhhepnoelhaaGreatDoor
open Go.RowKit

set_option maxRecDepth 100000 in
set_option maxHeartbeats 1000000 in
theorem formBack_inf_neg (x : Int) (w : World) (h0 : 0 ≤ x) (h1 : x ≤ 255) (hm : x % 3 = 0) (r : ByteArray) (hC : CtxAt w 0 0 100000 (-100000) 1967 r) :
    Calls Tryz.prog 7 #[.int .u8 x, .bool true] w fun e w' => e = .returned (.bool true) ∧ Fr NoB w w' := by
  have HC := hid hC
  clear hC
  go_enter Tryz.func7, Tryz.ntmps7
  go_wp2_with fail
  refine (string_inf_neg _).mono ?_
  rintro e w1 ⟨rfl, hF⟩
  have hF1 := (((Fr.refl NoB w).alloc _).trans hF (fun _ _ h => h))
  have HF1 := hid hF1
  have hX := hF.blk (blk_new w (.cells #[.int .i64 1, .bool true, .slice none 0 0, .int .i64 0] 30)) (fun h => h)
  have HX := hid hX
  clear hF hF1 hX
  go_wp2_with fail
  refine (parse_inf_neg _ r (HC.out.fr HF1.out (fun h => h))).mono ?_
  rintro e w2 ⟨rfl, hF2⟩
  have HF2 := hid (HF1.out.trans hF2 (fun _ _ h => h))
  have hX := hF2.blk HX.out (fun h => h)
  have x0 := blk_cell hX 0
  simp only [List.getElem?_toArray, List.getElem?_cons_zero] at x0
  have hlt := blk_lt hX
  clear hF2 hX HX
  go_wp2_with fail
  go_ret
  exact ⟨rfl, HF2.out.alloc _⟩

set_option maxRecDepth 100000 in
set_option maxHeartbeats 1000000 in
theorem formBack_inf_pos (x : Int) (w : World) (h0 : 0 ≤ x) (h1 : x ≤ 255) (hm : x % 3 = 0) (r : ByteArray) (hC : CtxAt w 0 0 100000 (-100000) 1967 r) :
    Calls Tryz.prog 7 #[.int .u8 x, .bool false] w fun e w' => e = .returned (.bool true) ∧ Fr NoB w w' := by
  have HC := hid hC
  clear hC
  go_enter Tryz.func7, Tryz.ntmps7
  go_wp2_with fail
  refine (string_inf_pos _).mono ?_
  rintro e w1 ⟨rfl, hF⟩
  have hF1 := (((Fr.refl NoB w).alloc _).trans hF (fun _ _ h => h))
  have HF1 := hid hF1
  have hX := hF.blk (blk_new w (.cells #[.int .i64 1, .bool false, .slice none 0 0, .int .i64 0] 30)) (fun h => h)
  have HX := hid hX
  clear hF hF1 hX
  go_wp2_with fail
  refine (parse_inf_pos _ r (HC.out.fr HF1.out (fun h => h))).mono ?_
  rintro e w2 ⟨rfl, hF2⟩
  have HF2 := hid (HF1.out.trans hF2 (fun _ _ h => h))
  have hX := hF2.blk HX.out (fun h => h)
  have x0 := blk_cell hX 0
  simp only [List.getElem?_toArray, List.getElem?_cons_zero] at x0
  have hlt := blk_lt hX
  clear hF2 hX HX
  go_wp2_with fail
  go_ret
  exact ⟨rfl, HF2.out.alloc _⟩

set_option maxRecDepth 100000 in
set_option maxHeartbeats 1000000 in
theorem formBack_snan_neg (x : Int) (w : World) (h0 : 0 ≤ x) (h1 : x ≤ 255) (hm : x % 3 = 1) (r : ByteArray) (hC : CtxAt w 0 0 100000 (-100000) 1967 r) :
    Calls Tryz.prog 7 #[.int .u8 x, .bool true] w fun e w' => e = .returned (.bool true) ∧ Fr NoB w w' := by
  have HC := hid hC
  clear hC
  go_enter Tryz.func7, Tryz.ntmps7
  go_wp2_with fail
  refine (string_snan_neg _).mono ?_
  rintro e w1 ⟨rfl, hF⟩
  have hF1 := (((Fr.refl NoB w).alloc _).trans hF (fun _ _ h => h))
  have HF1 := hid hF1
  have hX := hF.blk (blk_new w (.cells #[.int .i64 2, .bool true, .slice none 0 0, .int .i64 0] 30)) (fun h => h)
  have HX := hid hX
  clear hF hF1 hX
  go_wp2_with fail
  refine (parse_snan_neg _ r (HC.out.fr HF1.out (fun h => h))).mono ?_
  rintro e w2 ⟨rfl, hF2⟩
  have HF2 := hid (HF1.out.trans hF2 (fun _ _ h => h))
  have hX := hF2.blk HX.out (fun h => h)
  have x0 := blk_cell hX 0
  simp only [List.getElem?_toArray, List.getElem?_cons_zero] at x0
  have hlt := blk_lt hX
  clear hF2 hX HX
  go_wp2_with fail
  go_ret
  exact ⟨rfl, HF2.out.alloc _⟩

set_option maxRecDepth 100000 in
set_option maxHeartbeats 1000000 in
theorem formBack_snan_pos (x : Int) (w : World) (h0 : 0 ≤ x) (h1 : x ≤ 255) (hm : x % 3 = 1) (r : ByteArray) (hC : CtxAt w 0 0 100000 (-100000) 1967 r) :
    Calls Tryz.prog 7 #[.int .u8 x, .bool false] w fun e w' => e = .returned (.bool true) ∧ Fr NoB w w' := by
  have HC := hid hC
  clear hC
  go_enter Tryz.func7, Tryz.ntmps7
  go_wp2_with fail
  refine (string_snan_pos _).mono ?_
  rintro e w1 ⟨rfl, hF⟩
  have hF1 := (((Fr.refl NoB w).alloc _).trans hF (fun _ _ h => h))
  have HF1 := hid hF1
  have hX := hF.blk (blk_new w (.cells #[.int .i64 2, .bool false, .slice none 0 0, .int .i64 0] 30)) (fun h => h)
  have HX := hid hX
  clear hF hF1 hX
  go_wp2_with fail
  refine (parse_snan_pos _ r (HC.out.fr HF1.out (fun h => h))).mono ?_
  rintro e w2 ⟨rfl, hF2⟩
  have HF2 := hid (HF1.out.trans hF2 (fun _ _ h => h))
  have hX := hF2.blk HX.out (fun h => h)
  have x0 := blk_cell hX 0
  simp only [List.getElem?_toArray, List.getElem?_cons_zero] at x0
  have hlt := blk_lt hX
  clear hF2 hX HX
  go_wp2_with fail
  go_ret
  exact ⟨rfl, HF2.out.alloc _⟩

set_option maxRecDepth 100000 in
set_option maxHeartbeats 1000000 in
theorem formBack_nan_neg (x : Int) (w : World) (h0 : 0 ≤ x) (h1 : x ≤ 255) (hm : x % 3 = 2) (r : ByteArray) (hC : CtxAt w 0 0 100000 (-100000) 1967 r) :
    Calls Tryz.prog 7 #[.int .u8 x, .bool true] w fun e w' => e = .returned (.bool true) ∧ Fr NoB w w' := by
  have HC := hid hC
  clear hC
  go_enter Tryz.func7, Tryz.ntmps7
  go_wp2_with fail
  refine (string_nan_neg _).mono ?_
  rintro e w1 ⟨rfl, hF⟩
  have hF1 := (((Fr.refl NoB w).alloc _).trans hF (fun _ _ h => h))
  have HF1 := hid hF1
  have hX := hF.blk (blk_new w (.cells #[.int .i64 3, .bool true, .slice none 0 0, .int .i64 0] 30)) (fun h => h)
  have HX := hid hX
  clear hF hF1 hX
  go_wp2_with fail
  refine (parse_nan_neg _ r (HC.out.fr HF1.out (fun h => h))).mono ?_
  rintro e w2 ⟨rfl, hF2⟩
  have HF2 := hid (HF1.out.trans hF2 (fun _ _ h => h))
  have hX := hF2.blk HX.out (fun h => h)
  have x0 := blk_cell hX 0
  simp only [List.getElem?_toArray, List.getElem?_cons_zero] at x0
  have hlt := blk_lt hX
  clear hF2 hX HX
  go_wp2_with fail
  go_ret
  exact ⟨rfl, HF2.out.alloc _⟩

set_option maxRecDepth 100000 in
set_option maxHeartbeats 1000000 in
theorem formBack_nan_pos (x : Int) (w : World) (h0 : 0 ≤ x) (h1 : x ≤ 255) (hm : x % 3 = 2) (r : ByteArray) (hC : CtxAt w 0 0 100000 (-100000) 1967 r) :
    Calls Tryz.prog 7 #[.int .u8 x, .bool false] w fun e w' => e = .returned (.bool true) ∧ Fr NoB w w' := by
  have HC := hid hC
  clear hC
  go_enter Tryz.func7, Tryz.ntmps7
  go_wp2_with fail
  refine (string_nan_pos _).mono ?_
  rintro e w1 ⟨rfl, hF⟩
  have hF1 := (((Fr.refl NoB w).alloc _).trans hF (fun _ _ h => h))
  have HF1 := hid hF1
  have hX := hF.blk (blk_new w (.cells #[.int .i64 3, .bool false, .slice none 0 0, .int .i64 0] 30)) (fun h => h)
  have HX := hid hX
  clear hF hF1 hX
  go_wp2_with fail
  refine (parse_nan_pos _ r (HC.out.fr HF1.out (fun h => h))).mono ?_
  rintro e w2 ⟨rfl, hF2⟩
  have HF2 := hid (HF1.out.trans hF2 (fun _ _ h => h))
  have hX := hF2.blk HX.out (fun h => h)
  have x0 := blk_cell hX 0
  simp only [List.getElem?_toArray, List.getElem?_cons_zero] at x0
  have hlt := blk_lt hX
  clear hF2 hX HX
  go_wp2_with fail
  go_ret
  exact ⟨rfl, HF2.out.alloc _⟩

theorem formBack_law (x : Int) (b : Bool) (w : World) (h0 : 0 ≤ x) (h1 : x ≤ 255) (r : ByteArray) (hC : CtxAt w 0 0 100000 (-100000) 1967 r) :
    Calls Tryz.prog 7 #[.int .u8 x, .bool b] w fun e w' => e = .returned (.bool true) ∧ Below w.heap.size w w' := by
  have hm : x % 3 = 0 ∨ x % 3 = 1 ∨ x % 3 = 2 := by omega
  rcases hm with hm | hm | hm <;> cases b
  · exact (formBack_inf_pos x w h0 h1 hm r hC).mono fun e w' ⟨he, hF⟩ => ⟨he, hF.below⟩
  · exact (formBack_inf_neg x w h0 h1 hm r hC).mono fun e w' ⟨he, hF⟩ => ⟨he, hF.below⟩
  · exact (formBack_snan_pos x w h0 h1 hm r hC).mono fun e w' ⟨he, hF⟩ => ⟨he, hF.below⟩
  · exact (formBack_snan_neg x w h0 h1 hm r hC).mono fun e w' ⟨he, hF⟩ => ⟨he, hF.below⟩
  · exact (formBack_nan_pos x w h0 h1 hm r hC).mono fun e w' ⟨he, hF⟩ => ⟨he, hF.below⟩
  · exact (formBack_nan_neg x w h0 h1 hm r hC).mono fun e w' ⟨he, hF⟩ => ⟨he, hF.below⟩
end Go.Proofs.YteokhhepnoelhaaGreatDoor
