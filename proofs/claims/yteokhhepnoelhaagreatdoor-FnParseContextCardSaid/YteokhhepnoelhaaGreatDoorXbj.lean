/-
  ShouldAddOne: whether one is added, by the eight modes.
-/
import Derived.Test.YteokhhepnoelhaaGreatDoorXbi
import Derived.Test.YteokhhepnoelhaaGreatDoorXaw
import Derived.Test.YteokhhepnoelhaaGreatDoorXao
import Derived.Laws.BitsAllLaws
import Derived.Test.YteokhhepnoelhaaGreatDoorXau
import Derived.Test.YteokhhepnoelhaaGreatDoorXav
set_option linter.unusedVariables false
set_option linter.unusedSimpArgs false
namespace Go.Proofs.YteokhhepnoelhaaGreatDoor
open Go.RowKit
def modeStr (mode : Nat) : ByteArray :=
 match mode with
 | 0 => ⟨#[100, 111, 119, 110]⟩
 | 2 => ⟨#[104, 97, 108, 102, 95, 101, 118, 101, 110]⟩
 | 3 => ⟨#[99, 101, 105, 108, 105, 110, 103]⟩
 | 4 => ⟨#[102, 108, 111, 111, 114]⟩
 | 5 => ⟨#[104, 97, 108, 102, 95, 100, 111, 119, 110]⟩
 | 6 => ⟨#[117, 112]⟩
 | 7 => ⟨#[48, 53, 117, 112]⟩
 | _ => ⟨#[104, 97, 108, 102, 95, 117, 112]⟩
theorem limbs_parity {A x : Nat} (h : (limbs A)[0]? = some x) : x % 2 = A % 2 := by
 have h1 := nval_split (limbs A) 0 x h;rw [nval_limbs, List.take_zero, show nval [] = 0 from rfl, Nat.pow_zero, Nat.one_mul, Nat.zero_add] at h1;rw [h1, WB_eq];omega
set_option maxHeartbeats 1000000 in
theorem intBit0 (Q o A : Nat) (v : Value) (w : World) (h1 : w.cell? ⟨Q, o + 1, none⟩ = some v) (hv : NatAt w v (limbs A)) (hA : A ≠ 0) :
 Calls Tryz.prog 199 #[.pointer (some ⟨Q, o, none⟩), .int .i64 0] w fun e w' => e = .returned (.int .u64 ((A % 2 : Nat) : Int)) ∧ w = w' := by
 have hl := limbs_len_pos hA;obtain ⟨x, hx⟩ : ∃ x, (limbs A)[0]? = some x := ⟨_, List.getElem?_eq_getElem (by omega)⟩
 have hxb : x < WB := limbs_lt A x (List.mem_of_getElem? hx);have hp := limbs_parity hx;obtain ⟨g, cap, rfl, hc, hr1, hr2, hr3, hr4⟩ := hv.cell (fun h => by rw [h] at hl; simp at hl);clear hr1 hr2 hr3 hr4;have c0 := hc 0 x hx;have ha : bits .and .u64 (x : Int) 1 = ((A % 2 : Nat) : Int) := by
  rw [WB_eq] at hxb;have := u64_and_nat x 1 hxb (by omega);rw [show ((1 : Nat) : Int) = 1 from rfl] at this;rw [this, Nat.and_one_is_mod, hp]
 have HA := hid ha;have hd : decide (0 < (limbs A).length) = true := decide_eq_true (by omega);clear hv hc hx hp hxb ha;generalize (limbs A).length = n at *
 have hn0 : 0 < n := hl;have hd2 : decide ((0 : Int) < (n : Int)) = true := decide_eq_true (by omega);have b0 : (0 : Int) < (n : Int) := by omega
 go_enter Tryz.func199, Tryz.ntmps199;go_wp2_with fail;go_ret;exact ⟨by rw [HA.out]; rfl, rfl⟩
theorem bigBit0 (Q o A : Nat) (v : Value) (w : World) (h1 : w.cell? ⟨Q, o + 1, none⟩ = some v) (hv : NatAt w v (limbs A)) (hA : A ≠ 0) :
 Calls Tryz.prog 169 #[.pointer (some ⟨Q, o, none⟩), .int .i64 0] w fun e w' => e = .returned (.int .u64 ((A % 2 : Nat) : Int)) ∧ w = w' := by
 have H := hid (intBit0 Q o A v w h1 hv hA);clear h1 hv;go_enter Tryz.func169, Tryz.ntmps169;go_wp2_with (go_at_call 199; refine H.out.mono ?_; rintro e w1 ⟨rfl, rfl⟩);go_ret;exact ⟨rfl, rfl⟩
def BoolRes (w : World) (b : Bool) (e : Ending) (w' : World) : Prop := e = .returned (.bool b) ∧ Fr NoB w w'
theorem BoolRes.same (w : World) (b : Bool) : BoolRes w b (.returned (.bool b)) w := ⟨rfl, Fr.refl _ _⟩
theorem roundDown_any (p : Value) (neg : Bool) (half : Int) (A : Nat) (w : World) : Calls Tryz.prog 134 #[p, .bool neg, .int .i64 half] w (BoolRes w (addB 0 neg A half)) := by
 have N := hid (BoolRes.same w (addB 0 neg A half));rw [show addB 0 neg A half = false from rfl] at *
 go_enter Tryz.func134, Tryz.ntmps134;go_wp2
 go_ret;exact N.out
theorem roundUp_any (p : Value) (neg : Bool) (half : Int) (A : Nat) (w : World) : Calls Tryz.prog 140 #[p, .bool neg, .int .i64 half] w (BoolRes w (addB 6 neg A half)) := by
 have N := hid (BoolRes.same w (addB 6 neg A half));rw [show addB 6 neg A half = true from rfl] at *
 go_enter Tryz.func140, Tryz.ntmps140;go_wp2
 go_ret;exact N.out
theorem roundFloor_any (p : Value) (neg : Bool) (half : Int) (A : Nat) (w : World) : Calls Tryz.prog 138 #[p, .bool neg, .int .i64 half] w (BoolRes w (addB 4 neg A half)) := by
 have N := hid (BoolRes.same w (addB 4 neg A half));rw [show addB 4 neg A half = neg from rfl] at *
 go_enter Tryz.func138, Tryz.ntmps138;go_wp2
 go_ret;exact N.out
theorem roundCeil_any (p : Value) (neg : Bool) (half : Int) (A : Nat) (w : World) : Calls Tryz.prog 137 #[p, .bool neg, .int .i64 half] w (BoolRes w (addB 3 neg A half)) := by
 have N := hid (BoolRes.same w (addB 3 neg A half));rw [show addB 3 neg A half = !neg from rfl] at *
 cases neg <;>
 · go_enter Tryz.func137, Tryz.ntmps137;go_wp2
   go_ret;exact N.out
theorem roundHalfUp_any (p : Value) (neg : Bool) (half : Int) (hh : half = -1 ∨ half = 0 ∨ half = 1) (A : Nat) (w : World) : Calls Tryz.prog 135 #[p, .bool neg, .int .i64 half] w (BoolRes w (addB 1 neg A half)) := by
 have N := hid (BoolRes.same w (addB 1 neg A half));rcases hh with rfl | rfl | rfl;all_goals
  go_enter Tryz.func135, Tryz.ntmps135;go_wp2
  go_ret;exact N.out
theorem roundHalfDown_any (p : Value) (neg : Bool) (half : Int) (hh : half = -1 ∨ half = 0 ∨ half = 1) (A : Nat) (w : World) : Calls Tryz.prog 139 #[p, .bool neg, .int .i64 half] w (BoolRes w (addB 5 neg A half)) := by
 have N := hid (BoolRes.same w (addB 5 neg A half));rcases hh with rfl | rfl | rfl;all_goals
  go_enter Tryz.func139, Tryz.ntmps139;go_wp2
  go_ret;exact N.out
theorem roundHalfEven_any (Q o A : Nat) (v : Value) (neg : Bool) (half : Int) (hh : half = -1 ∨ half = 0 ∨ half = 1) (w : World) (h1 : w.cell? ⟨Q, o + 1, none⟩ = some v) (hv : NatAt w v (limbs A)) (hA : A ≠ 0) :
 Calls Tryz.prog 136 #[.pointer (some ⟨Q, o, none⟩), .bool neg, .int .i64 half] w (BoolRes w (addB 2 neg A half)) := by
 have H := hid (bigBit0 Q o A v w h1 hv hA);have N := hid (BoolRes.same w (addB 2 neg A half));clear h1 hv;rcases hh with rfl | rfl | rfl;· go_enter Tryz.func136, Tryz.ntmps136;go_wp2_with fail;go_ret;exact N.out
 · have hb : addB 2 neg A 0 = decide (A % 2 = 1) := by simp [addB]
   rw [hb] at N ⊢;rcases Nat.mod_two_eq_zero_or_one A with h | h;all_goals
    rw [h] at N H ⊢;go_enter Tryz.func136, Tryz.ntmps136;go_wp2_with (go_at_call 169; refine H.out.mono ?_; rintro e w1 ⟨rfl, rfl⟩);go_ret;exact N.out
 · go_enter Tryz.func136, Tryz.ntmps136;go_wp2_with fail;go_ret;exact N.out
theorem bigSign_nat (D o V : Nat) (v : Value) (w : World) (h3 : w.cell? ⟨D, o, none⟩ = some (.bool false)) (h4 : w.cell? ⟨D, o + 1, none⟩ = some v) (h5 : w.cell? ⟨D, o + 2, none⟩ = some (.bool false)) (hv : NatAt w v (limbs V)) :
 Calls Tryz.prog 103 #[.pointer (some ⟨D, o, none⟩)] w fun e w' => e = .returned (.int .i64 (if V = 0 then 0 else 1)) ∧ w = w' := by
 obtain ⟨A, c, rfl⟩ := hv.shape;refine (bigSign_any D o false A (limbs V).length c false w h3 h4 h5).mono ?_;rintro e w' ⟨rfl, rfl⟩;refine ⟨?_, rfl⟩;by_cases h : V = 0;· subst h;rw [if_pos rfl];simp [bigSign, limbs]
 · have := limbs_len_pos h;rw [if_neg h];simp [bigSign, show ¬ (limbs V).length = 0 by omega]
set_option maxRecDepth 100000 in
set_option maxHeartbeats 2000000 in
theorem round05_any (Q o A : Nat) (v : Value) (neg : Bool) (half : Int) (w : World) (h0 : w.cell? ⟨Q, o, none⟩ = some (.bool false)) (h1 : w.cell? ⟨Q, o + 1, none⟩ = some v) (hv : NatAt w v (limbs A)) (hl : (limbs A).length ≤ 900) :
 Calls Tryz.prog 141 #[.pointer (some ⟨Q, o, none⟩), .bool neg, .int .i64 half] w (BoolRes w (addB 7 neg A half)) := by
 have hQ : Q < w.heap.size := World.block_lt_of_cell? w ⟨Q, o, none⟩ h0;have hF0 : Fr NoB w (w.alloc (.cells #[.bool false, .slice none 0 0, .bool false] 70)) := (Fr.refl _ _).alloc _;have hB0 : BlkAt (w.alloc (.cells #[.bool false, .slice none 0 0, .bool false] 70)) w.heap.size #[.bool false, .slice none 0 0, .bool false] 70 := blk_new w _;have hvlt : ∀ g, natBlk v = some g → g < w.heap.size := fun g h => hv.lt g h
 have HF0 := hid hF0; have HB0 := hid hB0; have H0 := hid h0; have H1 := hid h1; have HV := hid hv; have HVL := hid hvlt;have hsz0 : (w.alloc (.cells #[.bool false, .slice none 0 0, .bool false] 70)).heap.size = w.heap.size + 1 := by simp
 clear hF0 hB0 h0 h1 hv hvlt;go_enter Tryz.func141, Tryz.ntmps141;go_wp2_with fail;generalize (w.alloc (.cells #[.bool false, .slice none 0 0, .bool false] 70)) = W at *
 have HSZ := hid hsz0;clear hsz0
 -- the first remainder, by five
 go_wp2_with (first | (go_at_call 171; refine (bigFive_any _).mono ?_; rintro e w1 ⟨rfl, v5, b1, b2, b3, b4⟩));have HB1 := hid b1; have HV5 := hid b2; have HG5 := hid b3; have HF1 := hid b4;clear b1 b2 b3 b4;have hsz1 := HSZ.out;have h5 : Calls Tryz.prog 170 #[.pointer (some ⟨w.heap.size, 0, none⟩), .pointer (some ⟨Q, o, none⟩), .pointer (some ⟨W.heap.size, 0, none⟩)] w1
  fun e w' => e = .returned (.pointer (some ⟨w.heap.size, 0, none⟩)) ∧ QuoRes w1 w.heap.size 0 (#[Value.bool false, .slice none 0 0, .bool false].setIfInBounds (0 + 2) (.bool false)) 70 (.slice none 0 0) (A % 5) w' :=
  bigRem w.heap.size 0 Q o W.heap.size 0 A 5 _ 70 (.slice none 0 0) v v5 [] false w1 (by omega) (by omega) (HF1.out.blk HB0.out (fun h => h)) rfl rfl rfl
   (HF1.out.cell' (HF0.out.cell' H0.out (fun h => h)) (fun h => h)) (HF1.out.cell' (HF0.out.cell' H1.out (fun h => h)) (fun h => h)) (by rw [blk_cell HB1.out]; rfl)
   (NatAt.nil _) ((HV.out.fr HF0.out (fun _ _ h => h)).fr HF1.out (fun _ _ h => h)) HV5.out (fun g h => by cases h) (fun g h => by have := HVL.out g h; omega) (fun g h => by have := HG5.out g h; omega) (by omega) (by rw [WB_eq]; omega) hl
 have H5 := hid h5;clear h5 hsz1;refine H5.out.mono ?_;rintro e w2 ⟨rfl, r5, c1, c2, c3, c4⟩;have c1 : BlkAt w2 w.heap.size #[.bool false, r5, .bool false] 70 := c1;have HC1 := hid c1; have HC2 := hid c2; have HC3 := hid c3;have HC4 := hid ((HF0.out.trans HF1.out (fun _ _ h => h)).trans c4 (fun i hi h => by
  rcases h with h | h;· omega
  · cases h) : Fr NoB w w2)
 have hr5 : ∀ g, natBlk r5 = some g → W.heap.size ≤ g := fun g h => by
  rcases HC3.out g h with h2 | h2;· cases h2
  · have := HF1.out.size; omega
 have HR5 := hid hr5;have HS := hid (bigSign_nat w.heap.size 0 (A % 5) r5 w2 (by rw [blk_cell c1]; rfl) (by rw [blk_cell c1]; rfl) (by rw [blk_cell c1]; rfl) c2);clear c1 c2 c3 c4 hr5;by_cases h5 : A % 5 = 0;· have hb : addB 7 neg A half = true := decide_eq_true h5;have N := hid (show BoolRes w (addB 7 neg A half) (.returned (.bool true)) w2 from ⟨by rw [hb], HC4.out⟩);rw [if_pos h5] at HS;clear h5 hb;go_wp2_with (first | (go_at_call 103; refine HS.out.mono ?_; rintro e w3 ⟨rfl, rfl⟩));go_ret;exact N.out
 · have hb : addB 7 neg A half = false := decide_eq_false h5;have h10 : ¬ A % 10 = 0 := by omega
   rw [if_neg h5] at HS;have HB := hid hb; have H10 := hid h10;clear h5 hb h10;go_wp2_with (first | (go_at_call 103; refine HS.out.mono ?_; rintro e w3 ⟨rfl, rfl⟩));refine (bigTen_any _).mono ?_;rintro e w3 ⟨rfl, v10, b1, b2, b3, b4⟩;have h2 : Calls Tryz.prog 170 #[.pointer (some ⟨w.heap.size, 0, none⟩), .pointer (some ⟨Q, o, none⟩), .pointer (some ⟨w2.heap.size, 0, none⟩)] w3
    fun e w' => e = .returned (.pointer (some ⟨w.heap.size, 0, none⟩)) ∧ QuoRes w3 w.heap.size 0 (#[Value.bool false, r5, .bool false].setIfInBounds (0 + 2) (.bool false)) 70 r5 (A % 10) w' :=
    bigRem w.heap.size 0 Q o w2.heap.size 0 A 10 _ 70 r5 v v10 (limbs (A % 5)) false w3 (by omega) (by have := blk_lt HC1.out; omega) (b4.blk HC1.out (fun h => h)) rfl rfl rfl
     (b4.cell' (HC4.out.cell' H0.out (fun h => h)) (fun h => h)) (b4.cell' (HC4.out.cell' H1.out (fun h => h)) (fun h => h)) (by rw [blk_cell b1]; rfl)
     (HC2.out.fr b4 (fun _ _ h => h)) ((HV.out.fr HC4.out (fun _ _ h => h)).fr b4 (fun _ _ h => h)) b2 (fun g h => by have := HR5.out g h; have := HSZ.out; omega) (fun g h => by have := HVL.out g h; omega) (fun g h => by have := b3 g h; have := blk_lt HC1.out; omega) (by omega) (by rw [WB_eq]; omega) hl
   have H2 := hid h2;have HB4 := hid b4;clear h2 b1 b2 b3 b4;go_wp2_with fail;refine H2.out.mono ?_;rintro e w4 ⟨rfl, r10, d1, d2, d3, d4⟩;have d1 : BlkAt w4 w.heap.size #[.bool false, r10, .bool false] 70 := d1;have HS2 := hid (bigSign_nat w.heap.size 0 (A % 10) r10 w4 (by rw [blk_cell d1]; rfl) (by rw [blk_cell d1]; rfl) (by rw [blk_cell d1]; rfl) d2);rw [if_neg H10.out] at HS2;have HD4 := hid ((HC4.out.trans HB4.out (fun _ _ h => h)).trans d4 (fun i hi h => by
    rcases h with h | h;· omega
    · have := HR5.out i h; have := HSZ.out; omega) : Fr NoB w w4)
   have N := hid (show BoolRes w (addB 7 neg A half) (.returned (.bool false)) w4 from ⟨by rw [HB.out], HD4.out⟩);clear d1 d2 d3 d4;go_wp2_with (first | (go_at_call 103; refine HS2.out.mono ?_; rintro e w5 ⟨rfl, rfl⟩));go_ret;exact N.out
set_option maxRecDepth 100000 in
set_option maxHeartbeats 2000000 in
theorem should_any (mode : Nat) (hm : mode < 8) (Q o A : Nat) (v : Value) (neg : Bool) (half : Int) (hh : half = -1 ∨ half = 0 ∨ half = 1) (w : World) (h0 : w.cell? ⟨Q, o, none⟩ = some (.bool false)) (h1 : w.cell? ⟨Q, o + 1, none⟩ = some v) (hv : NatAt w v (limbs A)) (hA : A ≠ 0) (hl : (limbs A).length ≤ 900) :
 Calls Tryz.prog 92 #[.string (modeStr mode), .pointer (some ⟨Q, o, none⟩), .bool neg, .int .i64 half] w (BoolRes w (addB mode neg A half)) := by
 have H0 := hid (roundDown_any (.pointer (some ⟨Q, o, none⟩)) neg half A w);have H1 := hid (roundHalfUp_any (.pointer (some ⟨Q, o, none⟩)) neg half hh A w);have H2 := hid (roundHalfEven_any Q o A v neg half hh w h1 hv hA);have H3 := hid (roundCeil_any (.pointer (some ⟨Q, o, none⟩)) neg half A w);have H4 := hid (roundFloor_any (.pointer (some ⟨Q, o, none⟩)) neg half A w);have H5 := hid (roundHalfDown_any (.pointer (some ⟨Q, o, none⟩)) neg half hh A w);have H6 := hid (roundUp_any (.pointer (some ⟨Q, o, none⟩)) neg half A w);have H7 := hid (round05_any Q o A v neg half w h0 h1 hv hl);clear h0 h1 hv hA hh;have h8 : mode = 0 ∨ mode = 1 ∨ mode = 2 ∨ mode = 3 ∨ mode = 4 ∨ mode = 5 ∨ mode = 6 ∨ mode = 7 := by omega
 rcases h8 with rfl | rfl | rfl | rfl | rfl | rfl | rfl | rfl;all_goals
  simp only [modeStr];go_enter Tryz.func92, Tryz.ntmps92;go_wp2_with (first | (go_at_call 134; refine H0.out.mono ?_) | (go_at_call 135; refine H1.out.mono ?_) | (go_at_call 136; refine H2.out.mono ?_) | (go_at_call 137; refine H3.out.mono ?_) | (go_at_call 138; refine H4.out.mono ?_) | (go_at_call 139; refine H5.out.mono ?_) | (go_at_call 140; refine H6.out.mono ?_) | (go_at_call 141; refine H7.out.mono ?_));rintro e w1 ⟨rfl, hF⟩;have HF := hid hF;clear hF;go_wp2_with fail;go_ret;exact ⟨rfl, HF.out⟩
def condOf (fl : Int) : Int := if fl = 0 then 0 else if fl = 64 then 16 else 20
set_option maxRecDepth 100000 in
set_option maxHeartbeats 2000000 in
theorem conditions_fl (fl : Int) (hfl : fl = 0 ∨ fl = 64 ∨ fl = 80) (w : World) : Calls Tryz.prog 24 #[.int .u32 fl] w fun e w' => e = .returned (.int .i64 (condOf fl)) ∧ w = w' := by
 rcases hfl with rfl | rfl | rfl;· exact conditions_0 w
 all_goals
  have i0 : ∀ w, (Instr.index 86 condArr (.int .i64 0)).run Tryz.prog w = .ok (.int .u32 4) w := fun _ => by kernel_rfl
  have i1 : ∀ w, (Instr.index 86 condArr (.int .i64 1)).run Tryz.prog w = .ok (.int .u32 8) w := fun _ => by kernel_rfl
  have i2 : ∀ w, (Instr.index 86 condArr (.int .i64 2)).run Tryz.prog w = .ok (.int .u32 16) w := fun _ => by kernel_rfl
  have i3 : ∀ w, (Instr.index 86 condArr (.int .i64 3)).run Tryz.prog w = .ok (.int .u32 32) w := fun _ => by kernel_rfl
  have i4 : ∀ w, (Instr.index 86 condArr (.int .i64 4)).run Tryz.prog w = .ok (.int .u32 64) w := fun _ => by kernel_rfl
  have i5 : ∀ w, (Instr.index 86 condArr (.int .i64 5)).run Tryz.prog w = .ok (.int .u32 128) w := fun _ => by kernel_rfl
  have i6 : ∀ w, (Instr.index 86 condArr (.int .i64 6)).run Tryz.prog w = .ok (.int .u32 256) w := fun _ => by kernel_rfl
  have i7 : ∀ w, (Instr.index 86 condArr (.int .i64 7)).run Tryz.prog w = .ok (.int .u32 512) w := fun _ => by kernel_rfl
  have i8 : ∀ w, (Instr.index 86 condArr (.int .i64 8)).run Tryz.prog w = .ok (.int .u32 1024) w := fun _ => by kernel_rfl
  have i9 : ∀ w, (Instr.index 86 condArr (.int .i64 9)).run Tryz.prog w = .ok (.int .u32 2048) w := fun _ => by kernel_rfl
  have i10 : ∀ w, (Instr.index 86 condArr (.int .i64 10)).run Tryz.prog w = .ok (.int .u32 1) w := fun _ => by kernel_rfl
  have i11 : ∀ w, (Instr.index 86 condArr (.int .i64 11)).run Tryz.prog w = .ok (.int .u32 2) w := fun _ => by kernel_rfl
  go_enter Tryz.func24, Tryz.ntmps24;go_wp2
  go_rounds 13
  go_ret;exact ⟨rfl, rfl⟩
theorem goError_fl (cb : Nat) (fl : Int) (hfl : fl = 0 ∨ fl = 64 ∨ fl = 80) (w : World) (hc : w.cell? ⟨cb, 3, none⟩ = some (.int .u32 0)) :
 Calls Tryz.prog 43 #[.pointer (some ⟨cb, 0, none⟩), .int .u32 fl] w fun e w' => e = .returned (.tuple #[.int .u32 fl, .nilIface]) ∧ w = w' := by
 rcases hfl with rfl | rfl | rfl;all_goals
  go_enter Tryz.func43, Tryz.ntmps43;go_wp2_with (go_at_call 62; go_in);go_ret2;exact ⟨rfl, rfl⟩
theorem rounder_any (mode : Nat) (hm : mode < 8) (w : World) : Calls Tryz.prog 40 #[.int .i64 (mode : Int)] w fun e w' => e = .returned (.string (modeStr mode)) ∧ w = w' := by
 have h8 : mode = 0 ∨ mode = 1 ∨ mode = 2 ∨ mode = 3 ∨ mode = 4 ∨ mode = 5 ∨ mode = 6 ∨ mode = 7 := by omega
 rcases h8 with rfl | rfl | rfl | rfl | rfl | rfl | rfl | rfl;all_goals
  simp only [modeStr];go_enter Tryz.func40, Tryz.ntmps40;go_wp2
  go_ret;exact ⟨rfl, rfl⟩
def NewCtx (w : World) (p mode : Nat) (e : Ending) (w' : World) : Prop :=
 ∃ B, e = .returned (.pointer (some ⟨B, 0, none⟩)) ∧ w.heap.size ≤ B ∧ BlkAt w' B #[.int .u32 (p : Int), .int .i32 100000, .int .i32 (-100000), .int .u32 0, .string (modeStr mode)] 85 ∧ Fr NoB w w'
set_option maxRecDepth 100000 in
set_option maxHeartbeats 4000000 in
theorem context_any (p mode : Nat) (hp : p ≤ 60) (hm : mode < 8) (w : World) : Calls Tryz.prog 29 #[.agg #[.int .u64 (p : Int), .int .i64 100000, .int .i64 (-100000), .int .i64 (mode : Int)]] w (NewCtx w p mode) := by
 have hF : Fr NoB w (w.alloc (.cells #[.int .u64 (p : Int), .int .i64 100000, .int .i64 (-100000), .int .i64 (mode : Int)] 38)) := (Fr.refl _ _).alloc _;have hB : BlkAt (w.alloc (.cells #[.int .u64 (p : Int), .int .i64 100000, .int .i64 (-100000), .int .i64 (mode : Int)] 38)) w.heap.size #[.int .u64 (p : Int), .int .i64 100000, .int .i64 (-100000), .int .i64 (mode : Int)] 38 := blk_new w _;have hsz : (w.alloc (.cells #[.int .u64 (p : Int), .int .i64 100000, .int .i64 (-100000), .int .i64 (mode : Int)] 38)).heap.size = w.heap.size + 1 := by simp
 have c0 := blk_cell hB 0; have c1 := blk_cell hB 1; have c2 := blk_cell hB 2; have c3 := blk_cell hB 3;simp only [List.getElem?_toArray, List.getElem?_cons_zero, List.getElem?_cons_succ] at c0 c1 c2 c3;have HR := hid (fun w => rounder_any mode hm w);have k1 : IntKind.u32.wrap (p : Int) = (p : Int) := by
  have : ∀ n : Int, IntKind.u32.wrap n = n % 4294967296 := fun n => by kernel_rfl
  rw [this]; omega
 have HF := hid hF; have HSZ := hid hsz;clear hF hB hsz;go_enter Tryz.func29, Tryz.ntmps29;go_wp2_with fail;generalize hms : modeStr mode = ms at *
 have HMS := hid hms;clear hms;have j1 : IntKind.i32.wrap 100000 = 100000 := by decide +kernel
 have j2 : IntKind.i32.wrap (-100000) = -100000 := by decide +kernel
 generalize (w.alloc (.cells #[.int .u64 (p : Int), .int .i64 100000, .int .i64 (-100000), .int .i64 (mode : Int)] 38)) = W at *
 go_region_held3 (fun w' => w'.cell? ⟨w.heap.size, 0, none⟩ = some (.int .u64 (p : Int)) ∧ w'.cell? ⟨w.heap.size, 1, none⟩ = some (.int .i64 100000) ∧ w'.cell? ⟨w.heap.size, 2, none⟩ = some (.int .i64 (-100000)) ∧ w'.cell? ⟨w.heap.size, 3, none⟩ = some (.int .i64 (mode : Int)))
  (first | (exact ⟨by assumption, by assumption, by assumption, by assumption⟩) | assumption | (exact ⟨Fr.cell' ((Fr.refl NoB _).drew.alloc _) c0 (fun h => h), Fr.cell' ((Fr.refl NoB _).drew.alloc _) c1 (fun h => h), Fr.cell' ((Fr.refl NoB _).drew.alloc _) c2 (fun h => h), Fr.cell' ((Fr.refl NoB _).drew.alloc _) c3 (fun h => h)⟩)) (first | (go_at_call 40; refine (HR.out _).mono ?_; rintro e w1 ⟨rfl, rfl⟩))
 go_wp2_with fail;go_ret;refine ⟨W.heap.size, rfl, HF.out.size, ?_, HF.out.trans ((Fr.refl NoB W).alloc _).drew (fun _ _ h => h)⟩;rw [HMS.out];exact blk_new W _
def RaRes (w : World) (Q E A : Nat) (vq : Value) (k : Int) (w' : World) : Prop :=
 ∃ v', BlkAt w' Q #[.bool false, v', .bool false] 70 ∧ BlkAt w' E #[.int .i64 (if Lib.nDigits A < Lib.nDigits (A + 1) then k + 1 else k)] 2 ∧ NatAt w' v' (limbs (if Lib.nDigits A < Lib.nDigits (A + 1) then (A + 1) / 10 else A + 1)) ∧
  (∀ g, natBlk v' = some g → natBlk vq = some g ∨ w.heap.size ≤ g) ∧ Fr (fun i => i = Q ∨ i = E ∨ natBlk vq = some i) w w'
set_option maxRecDepth 100000 in
set_option maxHeartbeats 4000000 in
theorem roundAddOne_any (Q E A : Nat) (vq : Value) (k : Int) (w : World) (hQE : E ≠ Q) (hQ : BlkAt w Q #[.bool false, vq, .bool false] 70) (hE : BlkAt w E #[.int .i64 k] 2) (hv : NatAt w vq (limbs A)) (hg : ∀ g, natBlk vq = some g → g ≠ Q ∧ g ≠ E)
 (hA : A ≠ 0) (hb : blen A ≤ 250) (hT : Thr w) (hQ19 : 19 ≤ Q) (hE19 : 19 ≤ E) (hg19 : ∀ g, natBlk vq = some g → 19 ≤ g) (hk : 0 ≤ k) (hk' : k ≤ 100) :
 Calls Tryz.prog 104 #[.pointer (some ⟨Q, 0, none⟩), .pointer (some ⟨E, 0, none⟩)] w fun e w' => e = .returned (.tuple #[]) ∧ RaRes w Q E A vq k w' := by
 have hl : (limbs A).length ≤ 90 := by have := limbs_len_blen A 4 (by omega); omega
 have hb1 : blen (A + 1) < 300 := by
  have h := (blen_bounds (show A ≠ 0 from hA)).2.1;have h2 : 2 ^ blen A ≤ 2 ^ 250 := Nat.pow_le_pow_right (by omega) hb;have h3 : blen (A + 1) ≤ 251 := by
   by_cases h0 : blen (A + 1) ≤ 251;· exact h0
   · have h4 := (blen_bounds (show A + 1 ≠ 0 by omega)).1;have h5 : 2 ^ 251 ≤ 2 ^ (blen (A + 1) - 1) := Nat.pow_le_pow_right (by omega) (by omega);have h6 : (2 : Nat) ^ 251 = 2 * 2 ^ 250 := by rw [← Nat.pow_succ']
     omega
  omega
 have hl1 : (limbs (A + 1)).length ≤ 900 := by have := limbs_len_blen (A + 1) 5 (by omega); omega
 have HS := hid (bigSign_nat Q 0 A vq w (by rw [blk_cell hQ]; rfl) (by rw [blk_cell hQ]; rfl) (by rw [blk_cell hQ]; rfl) hv);rw [if_neg hA] at HS;have HN := hid (numDigits_any Q 0 _ 70 vq A (by omega) w hQ rfl rfl rfl hv hT);have HQ := hid hQ; have HE := hid hE; have HV := hid hv; have HG := hid hg; have HT := hid hT; have HG19 := hid hg19;have hqlt := blk_lt hQ; have helt := blk_lt hE;have hvlt : ∀ g, natBlk vq = some g → g < w.heap.size := fun g h => hv.lt g h
 have HVL := hid hvlt;clear hQ hE hv hg hT hg19 hvlt hb;go_enter Tryz.func104, Tryz.ntmps104;go_wp2_with fail;refine HS.out.mono ?_;rintro e w0 ⟨rfl, rfl⟩;go_wp2_with fail;refine HN.out.mono ?_;rintro e w1 ⟨rfl, hF1⟩;have HF1 := hid hF1;clear hF1 HS HN;go_wp2_with fail;refine (bigOne_any w1).mono ?_;rintro e w2 ⟨rfl, v1, b1, b2, b3, b4⟩;have HF2 := hid (HF1.out.trans b4 (fun _ _ h => h));have hs1 := HF1.out.size;have HADD := hid (bigAdd Q 0 w1.heap.size 0 A 1 _ 70 vq v1 false w2 (by omega) (HF2.out.blk HQ.out (fun h => h)) rfl rfl rfl (by rw [blk_cell b1]; rfl) (by rw [blk_cell b1]; rfl) (HV.out.fr HF2.out (fun _ _ h => h)) (by rw [show limbs 1 = [1] from limbs_small (by omega) (by rw [WB_eq]; omega)] at b2; exact b2)
  (fun g h => by have := (HG.out g h).1; have := HVL.out g h; omega) (fun g h => by have := b3 g h; omega) (fun g h h2 => by have := b3 g h; have := HVL.out g h2; omega) hA (by rw [WB_eq]; omega) hl)
 have HB4 := hid b4;clear b1 b2 b3 b4;go_wp2_with fail;refine HADD.out.mono ?_;rintro e w3 ⟨rfl, v3, a1, a2, a3, a4⟩;have a1 : BlkAt w3 Q #[.bool false, v3, .bool false] 70 := a1;have hs2 := HF2.out.size;have HF3 := hid (HF2.out.mono (S' := fun i => i = Q ∨ natBlk vq = some i) (fun _ _ h => h.elim) |>.trans a4 (fun _ _ h => h));have hT3 := HT.out.fr HF3.out (fun i hi h => by
  rcases h with h | h;· omega
  · have := HG19.out i h; omega)
 have HN3 := hid (numDigits_any Q 0 _ 70 v3 (A + 1) hb1 w3 a1 rfl rfl rfl a2 hT3);have HA1 := hid a1; have HA2 := hid a2; have HA3 := hid a3;clear a1 a2 a3 a4 hT3;go_wp2_with fail;refine HN3.out.mono ?_;rintro e w4 ⟨rfl, hF4⟩;have HE4 := hid (hF4.blk (HF3.out.blk HE.out (fun h => by
  rcases h with h | h;· exact hQE h
  · exact (HG.out _ h).2 rfl)) (fun h => h))
 have HA1 := hid (hF4.blk HA1.out (fun h => h));have HA2 := hid (HA2.out.fr hF4 (fun _ _ h => h));have HF4 := hid (HF3.out.trans hF4 (fun _ _ h => h.elim));have hs4 := HF4.out.size;clear hF4;by_cases hd : Lib.nDigits A < Lib.nDigits (A + 1)
 · have N0 : ∀ w', ∀ v', BlkAt w' Q #[.bool false, v', .bool false] 70 → BlkAt w' E #[.int .i64 (k + 1)] 2 → NatAt w' v' (limbs ((A + 1) / 10)) → (∀ g, natBlk v' = some g → natBlk vq = some g ∨ w.heap.size ≤ g) → Fr (fun i => i = Q ∨ i = E ∨ natBlk vq = some i) w w' → RaRes w Q E A vq k w' :=
    fun w' v' c1 c2 c3 c4 c5 => ⟨v', c1, by rw [if_pos hd]; exact c2, by rw [if_pos hd]; exact c3, c4, c5⟩
   have N0 := hid N0;have t1 : (((Lib.nDigits A : Nat) : Int) < ((Lib.nDigits (A + 1) : Nat) : Int)) = True := eq_true (by omega);have h10 : 10 ≤ A + 1 := by
    by_cases h : 10 ≤ A + 1;· exact h
    · rw [Lib.nDigits_small (show A < 10 by omega), Lib.nDigits_small (show A + 1 < 10 by omega)] at hd;omega
   generalize Lib.nDigits A = d1 at *
   generalize Lib.nDigits (A + 1) = d2 at *
   clear hd;go_wp2_with fail;refine (bigTen_any w4).mono ?_;rintro e w5 ⟨rfl, v10, b1, b2, b3, b4⟩;have HQUO := hid (bigQuo Q 0 w4.heap.size 0 (A + 1) 10 _ 70 v3 v10 false w5 (by omega) (b4.blk HA1.out (fun h => h)) rfl rfl rfl (by rw [blk_cell b1]; rfl) (by rw [blk_cell b1]; rfl) (HA2.out.fr b4 (fun _ _ h => h)) b2
    (fun g h => by
     have h2 := HA2.out.lt g h;rcases HA3.out g h with h3 | h3;· have := (HG.out g h3).1; omega
     · omega) (fun g h => by have := b3 g h; omega) (by omega) (by rw [WB_eq]; omega) h10 hl1)
   have HE5 := hid (b4.blk HE4.out (fun h => h));have HF5 := hid (HF4.out.trans b4 (fun _ _ h => h.elim));clear b1 b2 b3 b4;go_wp2_with fail;refine HQUO.out.mono ?_;rintro e w6 ⟨rfl, v6, c1, c2, c3, c4⟩;have c1 : BlkAt w6 Q #[.bool false, v6, .bool false] 70 := c1;have hE6 : BlkAt w6 E #[.int .i64 k] 2 := c4.blk HE5.out (fun h => by
    rcases h with h | h;· exact hQE h
    · rcases HA3.out _ h with h3 | h3
      · exact (HG.out _ h3).2 rfl
      · omega)
   have ke : w6.cell? ⟨E, 0, none⟩ = some (.int .i64 k) := by rw [blk_cell hE6]; rfl
   have fe : w6.frozen? ⟨E, 0, none⟩ = false := blk_frozen hE6 _;have hFs : Fr (fun i => i = E) w6 (w6.setCell ⟨E, 0, none⟩ (.int .i64 (k + 1))) := Fr.setCell (S := fun i => i = E) (p := ⟨E, 0, none⟩) (Fr.refl _ _) (fun _ => rfl) _;have hs5 := HF5.out.size;have hv6 : ∀ g, natBlk v6 = some g → natBlk vq = some g ∨ w.heap.size ≤ g := fun g h => by
    rcases c3 g h with h2 | h2
    · rcases HA3.out g h2 with h3 | h3
      · exact .inl h3
      · exact .inr (by omega)
    · exact .inr (by omega)
   have N := hid (N0.out (w6.setCell ⟨E, 0, none⟩ (.int .i64 (k + 1))) v6 (hFs.blk c1 (fun h => hQE h.symm)) (blk_set hE6 0 (.int .i64 (k + 1))) (c2.fr hFs (fun g h h2 => by
    have h2 : g = E := h2;rcases hv6 g h with h3 | h3;· exact (HG.out _ h3).2 h2
    · omega)) hv6
    (((HF5.out.mono (S' := fun i => i = Q ∨ i = E ∨ natBlk vq = some i) (fun i _ h => by rcases h with h | h; exact .inl h; exact .inr (.inr h))).trans c4 (fun i hi h => by
     rcases h with h | h;· exact .inl h
     · rcases HA3.out i h with h3 | h3
       · exact .inr (.inr h3)
       · omega)).trans hFs (fun i _ h => .inr (.inl h))))
   clear c1 c2 c3 c4 hE6 hFs hv6 N0;go_wp2_with fail;go_end0;exact ⟨rfl, N.out⟩
 · have N := hid (show RaRes w Q E A vq k w4 from ⟨v3, HA1.out, by rw [if_neg hd]; exact HE4.out, by rw [if_neg hd]; exact HA2.out, fun g h => by
    rcases HA3.out g h with h3 | h3;· exact .inl h3
    · exact .inr (by omega), HF4.out.mono (fun i _ h => by rcases h with h | h; exact .inl h; exact .inr (.inr h))⟩)
   have t1 : (((Lib.nDigits A : Nat) : Int) < ((Lib.nDigits (A + 1) : Nat) : Int)) = False := eq_false (by omega);generalize Lib.nDigits A = d1 at *
   generalize Lib.nDigits (A + 1) = d2 at *
   clear hd;go_wp2_with fail;go_end0;exact ⟨rfl, N.out⟩
end Go.Proofs.YteokhhepnoelhaaGreatDoor
