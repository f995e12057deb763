/-
  impl.String at infinities and at what is no number: the texts, and reading them again.
-/
import Derived.Test.YteokhhepnoelhaaGreatDoorSpec2
import Derived.Laws.BytesArg
set_option linter.unusedVariables false
set_option linter.unusedSimpArgs false
namespace Go.Proofs.YteokhhepnoelhaaGreatDoor
open Go.RowKit

set_option maxRecDepth 100000 in
set_option maxHeartbeats 1000000 in
theorem text_inf_neg (D : Nat) (w : World) (hD : DecAt w D 1 true 0 false (.slice none 0 0) false) :
    Calls Tryz.prog 34 #[.pointer (some ⟨D, 0, none⟩), .int .u8 71] w fun e w' => e = .returned (.string ⟨#[45, 73, 110, 102, 105, 110, 105, 116, 121]⟩) ∧ Fr NoB w w' := by
  obtain ⟨⟨h0, h1, h2, h3, h4, h5⟩, f0, f1, f2, f3, f4, f5⟩ := hD.cells
  have hlt := blk_lt hD
  clear hD
  have hc : ∀ W : World, W.cell? ⟨w.heap.size, 0, none⟩ = some (.int .u8 45) → W.cell? ⟨w.heap.size, 1, none⟩ = some (.int .u8 73) → W.cell? ⟨w.heap.size, 2, none⟩ = some (.int .u8 110) → W.cell? ⟨w.heap.size, 3, none⟩ = some (.int .u8 102) → W.cell? ⟨w.heap.size, 4, none⟩ = some (.int .u8 105) → W.cell? ⟨w.heap.size, 5, none⟩ = some (.int .u8 110) → W.cell? ⟨w.heap.size, 6, none⟩ = some (.int .u8 105) → W.cell? ⟨w.heap.size, 7, none⟩ = some (.int .u8 116) → W.cell? ⟨w.heap.size, 8, none⟩ = some (.int .u8 121) →
    (convert 100 9 (.slice (some ⟨w.heap.size, 0, none⟩) 9 16)).run Tryz.prog W = .ok (.string ⟨#[45, 73, 110, 102, 105, 110, 105, 116, 121]⟩) W := by
    intro W c0 c1 c2 c3 c4 c5 c6 c7 c8
    exact run_convert_bytes_arg W 100 5 Tryz.underlying100 Tryz.underlying5 w.heap.size 0 9 16 [45, 73, 110, 102, 105, 110, 105, 116, 121] rfl (fun i hi => by
      match i, hi with
      | 0, _ => simpa using c0
      | 1, _ => simpa using c1
      | 2, _ => simpa using c2
      | 3, _ => simpa using c3
      | 4, _ => simpa using c4
      | 5, _ => simpa using c5
      | 6, _ => simpa using c6
      | 7, _ => simpa using c7
      | 8, _ => simpa using c8) 9 Tryz.underlying9
  go_enter Tryz.func34, Tryz.ntmps34
  go_wp2
  go_ret
  exact ⟨rfl, by repeat' (first | (with_reducible exact Fr.refl _ _) | refine Fr.alloc ?_ _)⟩

set_option maxRecDepth 100000 in
set_option maxHeartbeats 1000000 in
theorem string_inf_neg (w : World) :
    Calls Tryz.prog 18 #[.agg #[.int .i64 1, .bool true, .slice none 0 0, .int .i64 0]] w fun e w' => e = .returned (.string ⟨#[45, 73, 110, 102, 105, 110, 105, 116, 121]⟩) ∧ Fr NoB w w' := by
  go_enter Tryz.func18, Tryz.ntmps18
  go_wp2_with (first | (go_at_call 33; go_in) | (go_at_call 35; go_in))
  have hD : DecAt (((w.alloc (.cells #[.int .i64 1, .bool true, .slice none 0 0, .int .i64 0] 30)).alloc (.cells #[.int .i64 1, .bool true, .slice none 0 0, .int .i64 0] 30)).alloc (.cells #[.int .i8 1, .bool true, .int .i32 0, .bool false, .slice none 0 0, .bool false] 72)) (w.heap.size + 1 + 1) 1 true 0 false (.slice none 0 0) false := by
    have := blk_new ((w.alloc (.cells #[.int .i64 1, .bool true, .slice none 0 0, .int .i64 0] 30)).alloc (.cells #[.int .i64 1, .bool true, .slice none 0 0, .int .i64 0] 30)) (.cells #[.int .i8 1, .bool true, .int .i32 0, .bool false, .slice none 0 0, .bool false] 72 (0, 0))
    rw [World.size_alloc, World.size_alloc] at this
    exact this
  refine (text_inf_neg _ _ hD).mono ?_
  clear hD
  rintro e w1 ⟨rfl, hF⟩
  have HF := hid hF
  clear hF
  go_wp2
  go_ret
  exact ⟨rfl, ((((Fr.refl _ w).alloc _).alloc _).alloc _).trans HF.out (fun _ _ h => h)⟩

theorem parse_inf_neg (w : World) (r : ByteArray) (hC : CtxAt w 0 0 100000 (-100000) 1967 r) :
    Calls Tryz.prog 9 #[.string ⟨#[45, 73, 110, 102, 105, 110, 105, 116, 121]⟩] w fun e w' => e = .returned (.tuple #[.agg #[.int .i64 1, .bool true, .slice none 0 0, .int .i64 0], .int .i64 0, .bool true]) ∧ Fr NoB w w' := by
  refine parse_special [45, 73, 110, 102, 105, 110, 105, 116, 121] 1 (by omega) true w r hC fun D w1 hD _ _ => ?_
  refine setString_inf D false [45, 73, 110, 102, 105, 110, 105, 116, 121] w1 hD ?_
  unfold LowerAt
  refine (Tryz.strings_ToLower_ascii _ _ (by decide) ?_).mono fun e w' ⟨he, hb⟩ => ⟨he, Fr.of_below hb NoB⟩
  intro j b hj
  have hb : b ∈ unsign [45, 73, 110, 102, 105, 110, 105, 116, 121] := List.mem_of_getElem? hj
  have hall : ∀ b ∈ unsign [45, 73, 110, 102, 105, 110, 105, 116, 121], b.toNat < 128 := by decide
  exact hall b hb

set_option maxRecDepth 100000 in
set_option maxHeartbeats 1000000 in
theorem text_inf_pos (D : Nat) (w : World) (hD : DecAt w D 1 false 0 false (.slice none 0 0) false) :
    Calls Tryz.prog 34 #[.pointer (some ⟨D, 0, none⟩), .int .u8 71] w fun e w' => e = .returned (.string ⟨#[73, 110, 102, 105, 110, 105, 116, 121]⟩) ∧ Fr NoB w w' := by
  obtain ⟨⟨h0, h1, h2, h3, h4, h5⟩, f0, f1, f2, f3, f4, f5⟩ := hD.cells
  have hlt := blk_lt hD
  clear hD
  have hc : ∀ W : World, W.cell? ⟨w.heap.size, 0, none⟩ = some (.int .u8 73) → W.cell? ⟨w.heap.size, 1, none⟩ = some (.int .u8 110) → W.cell? ⟨w.heap.size, 2, none⟩ = some (.int .u8 102) → W.cell? ⟨w.heap.size, 3, none⟩ = some (.int .u8 105) → W.cell? ⟨w.heap.size, 4, none⟩ = some (.int .u8 110) → W.cell? ⟨w.heap.size, 5, none⟩ = some (.int .u8 105) → W.cell? ⟨w.heap.size, 6, none⟩ = some (.int .u8 116) → W.cell? ⟨w.heap.size, 7, none⟩ = some (.int .u8 121) →
    (convert 100 9 (.slice (some ⟨w.heap.size, 0, none⟩) 8 16)).run Tryz.prog W = .ok (.string ⟨#[73, 110, 102, 105, 110, 105, 116, 121]⟩) W := by
    intro W c0 c1 c2 c3 c4 c5 c6 c7
    exact run_convert_bytes_arg W 100 5 Tryz.underlying100 Tryz.underlying5 w.heap.size 0 8 16 [73, 110, 102, 105, 110, 105, 116, 121] rfl (fun i hi => by
      match i, hi with
      | 0, _ => simpa using c0
      | 1, _ => simpa using c1
      | 2, _ => simpa using c2
      | 3, _ => simpa using c3
      | 4, _ => simpa using c4
      | 5, _ => simpa using c5
      | 6, _ => simpa using c6
      | 7, _ => simpa using c7) 9 Tryz.underlying9
  go_enter Tryz.func34, Tryz.ntmps34
  go_wp2
  go_ret
  exact ⟨rfl, by repeat' (first | (with_reducible exact Fr.refl _ _) | refine Fr.alloc ?_ _)⟩

set_option maxRecDepth 100000 in
set_option maxHeartbeats 1000000 in
theorem string_inf_pos (w : World) :
    Calls Tryz.prog 18 #[.agg #[.int .i64 1, .bool false, .slice none 0 0, .int .i64 0]] w fun e w' => e = .returned (.string ⟨#[73, 110, 102, 105, 110, 105, 116, 121]⟩) ∧ Fr NoB w w' := by
  go_enter Tryz.func18, Tryz.ntmps18
  go_wp2_with (first | (go_at_call 33; go_in) | (go_at_call 35; go_in))
  have hD : DecAt (((w.alloc (.cells #[.int .i64 1, .bool false, .slice none 0 0, .int .i64 0] 30)).alloc (.cells #[.int .i64 1, .bool false, .slice none 0 0, .int .i64 0] 30)).alloc (.cells #[.int .i8 1, .bool false, .int .i32 0, .bool false, .slice none 0 0, .bool false] 72)) (w.heap.size + 1 + 1) 1 false 0 false (.slice none 0 0) false := by
    have := blk_new ((w.alloc (.cells #[.int .i64 1, .bool false, .slice none 0 0, .int .i64 0] 30)).alloc (.cells #[.int .i64 1, .bool false, .slice none 0 0, .int .i64 0] 30)) (.cells #[.int .i8 1, .bool false, .int .i32 0, .bool false, .slice none 0 0, .bool false] 72 (0, 0))
    rw [World.size_alloc, World.size_alloc] at this
    exact this
  refine (text_inf_pos _ _ hD).mono ?_
  clear hD
  rintro e w1 ⟨rfl, hF⟩
  have HF := hid hF
  clear hF
  go_wp2
  go_ret
  exact ⟨rfl, ((((Fr.refl _ w).alloc _).alloc _).alloc _).trans HF.out (fun _ _ h => h)⟩

theorem parse_inf_pos (w : World) (r : ByteArray) (hC : CtxAt w 0 0 100000 (-100000) 1967 r) :
    Calls Tryz.prog 9 #[.string ⟨#[73, 110, 102, 105, 110, 105, 116, 121]⟩] w fun e w' => e = .returned (.tuple #[.agg #[.int .i64 1, .bool false, .slice none 0 0, .int .i64 0], .int .i64 0, .bool true]) ∧ Fr NoB w w' := by
  refine parse_special [73, 110, 102, 105, 110, 105, 116, 121] 1 (by omega) false w r hC fun D w1 hD _ _ => ?_
  refine setString_inf D false [73, 110, 102, 105, 110, 105, 116, 121] w1 hD ?_
  unfold LowerAt
  refine (Tryz.strings_ToLower_ascii _ _ (by decide) ?_).mono fun e w' ⟨he, hb⟩ => ⟨he, Fr.of_below hb NoB⟩
  intro j b hj
  have hb : b ∈ unsign [73, 110, 102, 105, 110, 105, 116, 121] := List.mem_of_getElem? hj
  have hall : ∀ b ∈ unsign [73, 110, 102, 105, 110, 105, 116, 121], b.toNat < 128 := by decide
  exact hall b hb

set_option maxRecDepth 100000 in
set_option maxHeartbeats 1000000 in
theorem text_snan_neg (D : Nat) (w : World) (hD : DecAt w D 2 true 0 false (.slice none 0 0) false) :
    Calls Tryz.prog 34 #[.pointer (some ⟨D, 0, none⟩), .int .u8 71] w fun e w' => e = .returned (.string ⟨#[45, 115, 78, 97, 78]⟩) ∧ Fr NoB w w' := by
  obtain ⟨⟨h0, h1, h2, h3, h4, h5⟩, f0, f1, f2, f3, f4, f5⟩ := hD.cells
  have hlt := blk_lt hD
  clear hD
  have hc : ∀ W : World, W.cell? ⟨w.heap.size, 0, none⟩ = some (.int .u8 45) → W.cell? ⟨w.heap.size, 1, none⟩ = some (.int .u8 115) → W.cell? ⟨w.heap.size, 2, none⟩ = some (.int .u8 78) → W.cell? ⟨w.heap.size, 3, none⟩ = some (.int .u8 97) → W.cell? ⟨w.heap.size, 4, none⟩ = some (.int .u8 78) →
    (convert 100 9 (.slice (some ⟨w.heap.size, 0, none⟩) 5 16)).run Tryz.prog W = .ok (.string ⟨#[45, 115, 78, 97, 78]⟩) W := by
    intro W c0 c1 c2 c3 c4
    exact run_convert_bytes_arg W 100 5 Tryz.underlying100 Tryz.underlying5 w.heap.size 0 5 16 [45, 115, 78, 97, 78] rfl (fun i hi => by
      match i, hi with
      | 0, _ => simpa using c0
      | 1, _ => simpa using c1
      | 2, _ => simpa using c2
      | 3, _ => simpa using c3
      | 4, _ => simpa using c4) 9 Tryz.underlying9
  go_enter Tryz.func34, Tryz.ntmps34
  go_wp2
  go_ret
  exact ⟨rfl, by repeat' (first | (with_reducible exact Fr.refl _ _) | refine Fr.alloc ?_ _)⟩

set_option maxRecDepth 100000 in
set_option maxHeartbeats 1000000 in
theorem string_snan_neg (w : World) :
    Calls Tryz.prog 18 #[.agg #[.int .i64 2, .bool true, .slice none 0 0, .int .i64 0]] w fun e w' => e = .returned (.string ⟨#[45, 115, 78, 97, 78]⟩) ∧ Fr NoB w w' := by
  go_enter Tryz.func18, Tryz.ntmps18
  go_wp2_with (first | (go_at_call 33; go_in) | (go_at_call 35; go_in))
  have hD : DecAt (((w.alloc (.cells #[.int .i64 2, .bool true, .slice none 0 0, .int .i64 0] 30)).alloc (.cells #[.int .i64 2, .bool true, .slice none 0 0, .int .i64 0] 30)).alloc (.cells #[.int .i8 2, .bool true, .int .i32 0, .bool false, .slice none 0 0, .bool false] 72)) (w.heap.size + 1 + 1) 2 true 0 false (.slice none 0 0) false := by
    have := blk_new ((w.alloc (.cells #[.int .i64 2, .bool true, .slice none 0 0, .int .i64 0] 30)).alloc (.cells #[.int .i64 2, .bool true, .slice none 0 0, .int .i64 0] 30)) (.cells #[.int .i8 2, .bool true, .int .i32 0, .bool false, .slice none 0 0, .bool false] 72 (0, 0))
    rw [World.size_alloc, World.size_alloc] at this
    exact this
  refine (text_snan_neg _ _ hD).mono ?_
  clear hD
  rintro e w1 ⟨rfl, hF⟩
  have HF := hid hF
  clear hF
  go_wp2
  go_ret
  exact ⟨rfl, ((((Fr.refl _ w).alloc _).alloc _).alloc _).trans HF.out (fun _ _ h => h)⟩

theorem parse_snan_neg (w : World) (r : ByteArray) (hC : CtxAt w 0 0 100000 (-100000) 1967 r) :
    Calls Tryz.prog 9 #[.string ⟨#[45, 115, 78, 97, 78]⟩] w fun e w' => e = .returned (.tuple #[.agg #[.int .i64 2, .bool true, .slice none 0 0, .int .i64 0], .int .i64 0, .bool true]) ∧ Fr NoB w w' := by
  refine parse_special [45, 115, 78, 97, 78] 2 (by omega) true w r hC fun D w1 hD _ _ => ?_
  refine setString_snan D false [45, 115, 78, 97, 78] w1 hD ?_
  unfold LowerAt
  refine (Tryz.strings_ToLower_ascii _ _ (by decide) ?_).mono fun e w' ⟨he, hb⟩ => ⟨he, Fr.of_below hb NoB⟩
  intro j b hj
  have hb : b ∈ unsign [45, 115, 78, 97, 78] := List.mem_of_getElem? hj
  have hall : ∀ b ∈ unsign [45, 115, 78, 97, 78], b.toNat < 128 := by decide
  exact hall b hb

set_option maxRecDepth 100000 in
set_option maxHeartbeats 1000000 in
theorem text_snan_pos (D : Nat) (w : World) (hD : DecAt w D 2 false 0 false (.slice none 0 0) false) :
    Calls Tryz.prog 34 #[.pointer (some ⟨D, 0, none⟩), .int .u8 71] w fun e w' => e = .returned (.string ⟨#[115, 78, 97, 78]⟩) ∧ Fr NoB w w' := by
  obtain ⟨⟨h0, h1, h2, h3, h4, h5⟩, f0, f1, f2, f3, f4, f5⟩ := hD.cells
  have hlt := blk_lt hD
  clear hD
  have hc : ∀ W : World, W.cell? ⟨w.heap.size, 0, none⟩ = some (.int .u8 115) → W.cell? ⟨w.heap.size, 1, none⟩ = some (.int .u8 78) → W.cell? ⟨w.heap.size, 2, none⟩ = some (.int .u8 97) → W.cell? ⟨w.heap.size, 3, none⟩ = some (.int .u8 78) →
    (convert 100 9 (.slice (some ⟨w.heap.size, 0, none⟩) 4 16)).run Tryz.prog W = .ok (.string ⟨#[115, 78, 97, 78]⟩) W := by
    intro W c0 c1 c2 c3
    exact run_convert_bytes_arg W 100 5 Tryz.underlying100 Tryz.underlying5 w.heap.size 0 4 16 [115, 78, 97, 78] rfl (fun i hi => by
      match i, hi with
      | 0, _ => simpa using c0
      | 1, _ => simpa using c1
      | 2, _ => simpa using c2
      | 3, _ => simpa using c3) 9 Tryz.underlying9
  go_enter Tryz.func34, Tryz.ntmps34
  go_wp2
  go_ret
  exact ⟨rfl, by repeat' (first | (with_reducible exact Fr.refl _ _) | refine Fr.alloc ?_ _)⟩

set_option maxRecDepth 100000 in
set_option maxHeartbeats 1000000 in
theorem string_snan_pos (w : World) :
    Calls Tryz.prog 18 #[.agg #[.int .i64 2, .bool false, .slice none 0 0, .int .i64 0]] w fun e w' => e = .returned (.string ⟨#[115, 78, 97, 78]⟩) ∧ Fr NoB w w' := by
  go_enter Tryz.func18, Tryz.ntmps18
  go_wp2_with (first | (go_at_call 33; go_in) | (go_at_call 35; go_in))
  have hD : DecAt (((w.alloc (.cells #[.int .i64 2, .bool false, .slice none 0 0, .int .i64 0] 30)).alloc (.cells #[.int .i64 2, .bool false, .slice none 0 0, .int .i64 0] 30)).alloc (.cells #[.int .i8 2, .bool false, .int .i32 0, .bool false, .slice none 0 0, .bool false] 72)) (w.heap.size + 1 + 1) 2 false 0 false (.slice none 0 0) false := by
    have := blk_new ((w.alloc (.cells #[.int .i64 2, .bool false, .slice none 0 0, .int .i64 0] 30)).alloc (.cells #[.int .i64 2, .bool false, .slice none 0 0, .int .i64 0] 30)) (.cells #[.int .i8 2, .bool false, .int .i32 0, .bool false, .slice none 0 0, .bool false] 72 (0, 0))
    rw [World.size_alloc, World.size_alloc] at this
    exact this
  refine (text_snan_pos _ _ hD).mono ?_
  clear hD
  rintro e w1 ⟨rfl, hF⟩
  have HF := hid hF
  clear hF
  go_wp2
  go_ret
  exact ⟨rfl, ((((Fr.refl _ w).alloc _).alloc _).alloc _).trans HF.out (fun _ _ h => h)⟩

theorem parse_snan_pos (w : World) (r : ByteArray) (hC : CtxAt w 0 0 100000 (-100000) 1967 r) :
    Calls Tryz.prog 9 #[.string ⟨#[115, 78, 97, 78]⟩] w fun e w' => e = .returned (.tuple #[.agg #[.int .i64 2, .bool false, .slice none 0 0, .int .i64 0], .int .i64 0, .bool true]) ∧ Fr NoB w w' := by
  refine parse_special [115, 78, 97, 78] 2 (by omega) false w r hC fun D w1 hD _ _ => ?_
  refine setString_snan D false [115, 78, 97, 78] w1 hD ?_
  unfold LowerAt
  refine (Tryz.strings_ToLower_ascii _ _ (by decide) ?_).mono fun e w' ⟨he, hb⟩ => ⟨he, Fr.of_below hb NoB⟩
  intro j b hj
  have hb : b ∈ unsign [115, 78, 97, 78] := List.mem_of_getElem? hj
  have hall : ∀ b ∈ unsign [115, 78, 97, 78], b.toNat < 128 := by decide
  exact hall b hb

set_option maxRecDepth 100000 in
set_option maxHeartbeats 1000000 in
theorem text_nan_neg (D : Nat) (w : World) (hD : DecAt w D 3 true 0 false (.slice none 0 0) false) :
    Calls Tryz.prog 34 #[.pointer (some ⟨D, 0, none⟩), .int .u8 71] w fun e w' => e = .returned (.string ⟨#[45, 78, 97, 78]⟩) ∧ Fr NoB w w' := by
  obtain ⟨⟨h0, h1, h2, h3, h4, h5⟩, f0, f1, f2, f3, f4, f5⟩ := hD.cells
  have hlt := blk_lt hD
  clear hD
  have hc : ∀ W : World, W.cell? ⟨w.heap.size, 0, none⟩ = some (.int .u8 45) → W.cell? ⟨w.heap.size, 1, none⟩ = some (.int .u8 78) → W.cell? ⟨w.heap.size, 2, none⟩ = some (.int .u8 97) → W.cell? ⟨w.heap.size, 3, none⟩ = some (.int .u8 78) →
    (convert 100 9 (.slice (some ⟨w.heap.size, 0, none⟩) 4 16)).run Tryz.prog W = .ok (.string ⟨#[45, 78, 97, 78]⟩) W := by
    intro W c0 c1 c2 c3
    exact run_convert_bytes_arg W 100 5 Tryz.underlying100 Tryz.underlying5 w.heap.size 0 4 16 [45, 78, 97, 78] rfl (fun i hi => by
      match i, hi with
      | 0, _ => simpa using c0
      | 1, _ => simpa using c1
      | 2, _ => simpa using c2
      | 3, _ => simpa using c3) 9 Tryz.underlying9
  go_enter Tryz.func34, Tryz.ntmps34
  go_wp2
  go_ret
  exact ⟨rfl, by repeat' (first | (with_reducible exact Fr.refl _ _) | refine Fr.alloc ?_ _)⟩

set_option maxRecDepth 100000 in
set_option maxHeartbeats 1000000 in
theorem string_nan_neg (w : World) :
    Calls Tryz.prog 18 #[.agg #[.int .i64 3, .bool true, .slice none 0 0, .int .i64 0]] w fun e w' => e = .returned (.string ⟨#[45, 78, 97, 78]⟩) ∧ Fr NoB w w' := by
  go_enter Tryz.func18, Tryz.ntmps18
  go_wp2_with (first | (go_at_call 33; go_in) | (go_at_call 35; go_in))
  have hD : DecAt (((w.alloc (.cells #[.int .i64 3, .bool true, .slice none 0 0, .int .i64 0] 30)).alloc (.cells #[.int .i64 3, .bool true, .slice none 0 0, .int .i64 0] 30)).alloc (.cells #[.int .i8 3, .bool true, .int .i32 0, .bool false, .slice none 0 0, .bool false] 72)) (w.heap.size + 1 + 1) 3 true 0 false (.slice none 0 0) false := by
    have := blk_new ((w.alloc (.cells #[.int .i64 3, .bool true, .slice none 0 0, .int .i64 0] 30)).alloc (.cells #[.int .i64 3, .bool true, .slice none 0 0, .int .i64 0] 30)) (.cells #[.int .i8 3, .bool true, .int .i32 0, .bool false, .slice none 0 0, .bool false] 72 (0, 0))
    rw [World.size_alloc, World.size_alloc] at this
    exact this
  refine (text_nan_neg _ _ hD).mono ?_
  clear hD
  rintro e w1 ⟨rfl, hF⟩
  have HF := hid hF
  clear hF
  go_wp2
  go_ret
  exact ⟨rfl, ((((Fr.refl _ w).alloc _).alloc _).alloc _).trans HF.out (fun _ _ h => h)⟩

theorem parse_nan_neg (w : World) (r : ByteArray) (hC : CtxAt w 0 0 100000 (-100000) 1967 r) :
    Calls Tryz.prog 9 #[.string ⟨#[45, 78, 97, 78]⟩] w fun e w' => e = .returned (.tuple #[.agg #[.int .i64 3, .bool true, .slice none 0 0, .int .i64 0], .int .i64 0, .bool true]) ∧ Fr NoB w w' := by
  refine parse_special [45, 78, 97, 78] 3 (by omega) true w r hC fun D w1 hD _ _ => ?_
  refine setString_nan D false [45, 78, 97, 78] w1 hD ?_
  unfold LowerAt
  refine (Tryz.strings_ToLower_ascii _ _ (by decide) ?_).mono fun e w' ⟨he, hb⟩ => ⟨he, Fr.of_below hb NoB⟩
  intro j b hj
  have hb : b ∈ unsign [45, 78, 97, 78] := List.mem_of_getElem? hj
  have hall : ∀ b ∈ unsign [45, 78, 97, 78], b.toNat < 128 := by decide
  exact hall b hb

set_option maxRecDepth 100000 in
set_option maxHeartbeats 1000000 in
theorem text_nan_pos (D : Nat) (w : World) (hD : DecAt w D 3 false 0 false (.slice none 0 0) false) :
    Calls Tryz.prog 34 #[.pointer (some ⟨D, 0, none⟩), .int .u8 71] w fun e w' => e = .returned (.string ⟨#[78, 97, 78]⟩) ∧ Fr NoB w w' := by
  obtain ⟨⟨h0, h1, h2, h3, h4, h5⟩, f0, f1, f2, f3, f4, f5⟩ := hD.cells
  have hlt := blk_lt hD
  clear hD
  have hc : ∀ W : World, W.cell? ⟨w.heap.size, 0, none⟩ = some (.int .u8 78) → W.cell? ⟨w.heap.size, 1, none⟩ = some (.int .u8 97) → W.cell? ⟨w.heap.size, 2, none⟩ = some (.int .u8 78) →
    (convert 100 9 (.slice (some ⟨w.heap.size, 0, none⟩) 3 16)).run Tryz.prog W = .ok (.string ⟨#[78, 97, 78]⟩) W := by
    intro W c0 c1 c2
    exact run_convert_bytes_arg W 100 5 Tryz.underlying100 Tryz.underlying5 w.heap.size 0 3 16 [78, 97, 78] rfl (fun i hi => by
      match i, hi with
      | 0, _ => simpa using c0
      | 1, _ => simpa using c1
      | 2, _ => simpa using c2) 9 Tryz.underlying9
  go_enter Tryz.func34, Tryz.ntmps34
  go_wp2
  go_ret
  exact ⟨rfl, by repeat' (first | (with_reducible exact Fr.refl _ _) | refine Fr.alloc ?_ _)⟩

set_option maxRecDepth 100000 in
set_option maxHeartbeats 1000000 in
theorem string_nan_pos (w : World) :
    Calls Tryz.prog 18 #[.agg #[.int .i64 3, .bool false, .slice none 0 0, .int .i64 0]] w fun e w' => e = .returned (.string ⟨#[78, 97, 78]⟩) ∧ Fr NoB w w' := by
  go_enter Tryz.func18, Tryz.ntmps18
  go_wp2_with (first | (go_at_call 33; go_in) | (go_at_call 35; go_in))
  have hD : DecAt (((w.alloc (.cells #[.int .i64 3, .bool false, .slice none 0 0, .int .i64 0] 30)).alloc (.cells #[.int .i64 3, .bool false, .slice none 0 0, .int .i64 0] 30)).alloc (.cells #[.int .i8 3, .bool false, .int .i32 0, .bool false, .slice none 0 0, .bool false] 72)) (w.heap.size + 1 + 1) 3 false 0 false (.slice none 0 0) false := by
    have := blk_new ((w.alloc (.cells #[.int .i64 3, .bool false, .slice none 0 0, .int .i64 0] 30)).alloc (.cells #[.int .i64 3, .bool false, .slice none 0 0, .int .i64 0] 30)) (.cells #[.int .i8 3, .bool false, .int .i32 0, .bool false, .slice none 0 0, .bool false] 72 (0, 0))
    rw [World.size_alloc, World.size_alloc] at this
    exact this
  refine (text_nan_pos _ _ hD).mono ?_
  clear hD
  rintro e w1 ⟨rfl, hF⟩
  have HF := hid hF
  clear hF
  go_wp2
  go_ret
  exact ⟨rfl, ((((Fr.refl _ w).alloc _).alloc _).alloc _).trans HF.out (fun _ _ h => h)⟩

theorem parse_nan_pos (w : World) (r : ByteArray) (hC : CtxAt w 0 0 100000 (-100000) 1967 r) :
    Calls Tryz.prog 9 #[.string ⟨#[78, 97, 78]⟩] w fun e w' => e = .returned (.tuple #[.agg #[.int .i64 3, .bool false, .slice none 0 0, .int .i64 0], .int .i64 0, .bool true]) ∧ Fr NoB w w' := by
  refine parse_special [78, 97, 78] 3 (by omega) false w r hC fun D w1 hD _ _ => ?_
  refine setString_nan D false [78, 97, 78] w1 hD ?_
  unfold LowerAt
  refine (Tryz.strings_ToLower_ascii _ _ (by decide) ?_).mono fun e w' ⟨he, hb⟩ => ⟨he, Fr.of_below hb NoB⟩
  intro j b hj
  have hb : b ∈ unsign [78, 97, 78] := List.mem_of_getElem? hj
  have hall : ∀ b ∈ unsign [78, 97, 78], b.toNat < 128 := by decide
  exact hall b hb

end Go.Proofs.YteokhhepnoelhaaGreatDoor
