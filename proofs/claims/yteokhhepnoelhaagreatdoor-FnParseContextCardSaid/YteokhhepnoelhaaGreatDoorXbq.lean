/-
  Rounder.Round: cut off, and one added.
-/
import Derived.Test.YteokhhepnoelhaaGreatDoorXbo
set_option linter.unusedVariables false
set_option linter.unusedSimpArgs false
namespace Go.Proofs.YteokhhepnoelhaaGreatDoor
open Go.RowKit
set_option maxRecDepth 100000 in
set_option maxHeartbeats 8000000 in
theorem round_upY (D cb mode Y kk : Nat) (hm : mode < 8) (neg : Bool) (e0 : Int) (v : Value) (V p k : Nat) (traps : Int) (w : World) (hD : DecAt w D 0 neg e0 false v false) (hv : NatAt w v (limbs V)) (hvD : ∀ g, natBlk v = some g → g ≠ D) (hD19 : 19 ≤ D) (hv19 : ∀ g, natBlk v = some g → 19 ≤ g)
 (hC : CtxAt w cb (p : Int) 100000 (-100000) traps (modeStr mode)) (hcD : cb ≠ D) (hcv : ∀ g, natBlk v = some g → cb ≠ g) (helo : -90000 ≤ e0) (hehi : e0 ≤ 90000) (hp : 1 ≤ p) (hp' : p ≤ 60) (hb : blen V ≤ 200) (hT : Thr w) (hnd : Lib.nDigits V = p + k) (hk1 : 1 ≤ k) (hk2 : k ≤ 60) (hr : ¬ V % 10 ^ k = 0) (hadd : addB mode neg (V / 10 ^ k) (cmpZ (V % 10 ^ k + V % 10 ^ k) (10 ^ k)) = true) (hY : (if Lib.nDigits (V / 10 ^ k) < Lib.nDigits (V / 10 ^ k + 1) then (V / 10 ^ k + 1) / 10 else V / 10 ^ k + 1) = Y) (hK : (if Lib.nDigits (V / 10 ^ k) < Lib.nDigits (V / 10 ^ k + 1) then (k : Int) + 1 else (k : Int)) = (kk : Int)) :
 Calls Tryz.prog 61 #[.string (modeStr mode), .pointer (some ⟨cb, 0, none⟩), .pointer (some ⟨D, 0, none⟩), .pointer (some ⟨D, 0, none⟩), .bool true] w (RndRes w D neg v V e0 80 Y (e0 + ((kk : Nat) : Int))) := by
 have hV0 : V ≠ 0 := by
  intro h;rw [h, Lib.nDigits_small (by omega)] at hnd;omega
 have hV10 : 10 ^ k ≤ V := by
  have h1 := pow_le_nDigits V V (Nat.le_refl _) hV0;have h2 : 10 ^ k ≤ 10 ^ (Lib.nDigits V - 1) := Nat.pow_le_pow_right (by omega) (by omega);omega
 have hlV : (limbs V).length ≤ 4 := limbs_len_blen V 4 (by omega);have hlk : (limbs (10 ^ k)).length ≤ 4 := limbs_len_blen _ 4 (by have := pow10_bits hk2; omega);have h10 : 2 ≤ 10 ^ k := by
  have := ten_pred hk1;have := ten_pos (k - 1);omega
 have hrl : V % 10 ^ k < 10 ^ k := Nat.mod_lt _ (ten_pos k);have hrb : blen (V % 10 ^ k) ≤ 200 := by
  refine blen_under ?_;have h2 : 10 ^ k ≤ 10 ^ 60 := Nat.pow_le_pow_right (by omega) hk2;have h3 : (10 : Nat) ^ 60 < 2 ^ 200 := by decide
  omega
 have hqb : blen (V / 10 ^ k) ≤ 200 := by
  refine blen_under ?_;have h1 : V / 10 ^ k ≤ V := Nat.div_le_self _ _;have h2 := (blen_bounds hV0).2.1;have h3 : 2 ^ blen V ≤ 2 ^ 200 := Nat.pow_le_pow_right (by omega) hb;omega
 have hq0 : V / 10 ^ k ≠ 0 := by have := Nat.div_pos hV10 (ten_pos k); omega
 have hqd : Lib.nDigits (V / 10 ^ k) = p := nDigits_div hp hnd;have HQB := hid hqb; have HQ0 := hid hq0; have HQD := hid hqd; have HRL := hid hrl; have HRB := hid hrb; have HV10 := hid hV10; have H10 := hid h10; have HLV := hid hlV; have HLK := hid hlk;clear hqb hq0 hqd hrl hrb hV10 h10 hlV hlk;have HN := hid (digOk_all V (by omega) D 0 neg e0 v w hD hv hT);have HSG := hid (fun (wx : World) (h : Fr NoB w wx) => decSign_V D neg e0 v V wx (h.blk hD (fun h => h)) (hv.fr h (fun _ _ h => h)));rw [if_neg hV0] at HSG;have HD := hid hD; have HV := hid hv; have HC := hid hC; have HVD := hid hvD; have HT := hid hT; have HV19 := hid hv19; have HCV := hid hcv;have hvl : ∀ g, natBlk v = some g → g < w.heap.size := fun g h => hv.lt g h
 have HVL := hid hvl;have hdlt := blk_lt hD;have hclt : cb < w.heap.size := World.block_lt_of_cell? w ⟨cb, 0, none⟩ hC.c0;have hq := fun w => eql51_same ⟨D, 0, none⟩ w
 have e2 : ((p : Int) == 0) = false := beq_eq_false_iff_ne.2 (by omega);have hnd2 : ((Lib.nDigits V : Nat) : Int) - (p : Int) = (k : Int) := by omega
 have t1 : decide (0 < (k : Int)) = true := decide_eq_true (by omega);have hadj : decide (e0 + ((Lib.nDigits V : Nat) : Int) - 1 < -100000) = false := decide_eq_false (by omega);have hbd1 : ((Lib.nDigits V : Nat) : Int) ≤ 1000 := by omega
 have hsg : (if neg then (-1 : Int) else 1) = -1 ∨ (if neg then (-1 : Int) else 1) = 1 := by
  cases neg;· exact .inr rfl
  · exact .inl rfl
 clear hD hv hC hvD hT hV0 hv19 hvl hcv hb;generalize Lib.nDigits V = nd at *
 clear hnd;generalize (if neg then (-1 : Int) else 1) = sg at *
 have t2 : (sg != 0) = true := by rcases hsg with h | h <;> rw [h] <;> rfl
 clear hsg;go_enter Tryz.func61, Tryz.ntmps61;go_wp2_with (first | (go_at_call 99; go_in));refine HN.out.mono ?_;rintro e w1 ⟨rfl, hF⟩;have HF := hid hF;obtain ⟨c0, c1, c2, c3, c4⟩ := HC.out.fr hF (fun h => h);obtain ⟨⟨h0, h1, h2, h3, h4, h5⟩, f0, f1, f2, f3, f4, f5⟩ := (HD.out.fr hF (fun h => h)).cells;clear hF h0 h1 h3 h4 h5 f0 f1 f3 f4 f5;go_wp2_with fail;refine (HSG.out w1 HF.out).mono ?_;rintro e w2 ⟨rfl, rfl⟩;go_wp2_with fail;have hs1 := HF.out.size;have hFa : Fr NoB w1 (((w1.alloc (.cells #[.int .i64 (k : Int)] 2)).alloc (.cells #[.bool false, .slice none 0 0, .bool false] 70)).alloc (.cells #[.bool false, .slice none 0 0, .bool false] 70)) := (((Fr.refl _ _).alloc _).alloc _).alloc _;have hE : BlkAt (((w1.alloc (.cells #[.int .i64 (k : Int)] 2)).alloc (.cells #[.bool false, .slice none 0 0, .bool false] 70)).alloc (.cells #[.bool false, .slice none 0 0, .bool false] 70)) w1.heap.size #[.int .i64 (k : Int)] 2 := blk_alloc (blk_alloc (blk_new w1 _) _) _;have hQ : BlkAt (((w1.alloc (.cells #[.int .i64 (k : Int)] 2)).alloc (.cells #[.bool false, .slice none 0 0, .bool false] 70)).alloc (.cells #[.bool false, .slice none 0 0, .bool false] 70)) (w1.heap.size + 1) #[.bool false, .slice none 0 0, .bool false] 70 := by
  have := blk_new (w1.alloc (.cells #[.int .i64 (k : Int)] 2)) (.cells #[.bool false, .slice none 0 0, .bool false] 70 (0, 0));rw [World.size_alloc] at this;exact blk_alloc this _
 have hR : BlkAt (((w1.alloc (.cells #[.int .i64 (k : Int)] 2)).alloc (.cells #[.bool false, .slice none 0 0, .bool false] 70)).alloc (.cells #[.bool false, .slice none 0 0, .bool false] 70)) (w1.heap.size + 2) #[.bool false, .slice none 0 0, .bool false] 70 := by
  have := blk_new ((w1.alloc (.cells #[.int .i64 (k : Int)] 2)).alloc (.cells #[.bool false, .slice none 0 0, .bool false] 70)) (.cells #[.bool false, .slice none 0 0, .bool false] 70 (0, 0));rw [World.size_alloc, World.size_alloc] at this;exact this
 have hszW : (((w1.alloc (.cells #[.int .i64 (k : Int)] 2)).alloc (.cells #[.bool false, .slice none 0 0, .bool false] 70)).alloc (.cells #[.bool false, .slice none 0 0, .bool false] 70)).heap.size = w1.heap.size + 3 := by simp
 have HFW := hid (HF.out.trans hFa (fun _ _ h => h));have HE := hid hE; have HQ := hid hQ; have HR := hid hR; have HSW := hid hszW;clear hFa hE hQ hR hszW c0 c1 c2 c3 c4 h2 f2;generalize (((w1.alloc (.cells #[.int .i64 (k : Int)] 2)).alloc (.cells #[.bool false, .slice none 0 0, .bool false] 70)).alloc (.cells #[.bool false, .slice none 0 0, .bool false] 70)) = W at *
 -- ten to the power
 have hwS := HSW.out;refine (tableExp10 (w1.heap.size + 1) 0 _ 70 false false k W HQ.out rfl rfl rfl (HT.out.fr HFW.out (fun _ _ h => h)) hk1 (by omega) (by omega)).mono ?_;rintro e w3 ⟨rfl, v3, a1, a2, a3, a4⟩;have a1 : BlkAt w3 (w1.heap.size + 1) #[.bool false, v3, .bool false] 70 := a1;have HF3 := hid (HFW.out.trans a4 (fun i hi h => by have h : i = w1.heap.size + 1 := h; omega) : Fr NoB w w3);have HE3 := hid (a4.blk HE.out (by show ¬ w1.heap.size = w1.heap.size + 1; omega));have HR3 := hid (a4.blk HR.out (by show ¬ w1.heap.size + 2 = w1.heap.size + 1; omega));have HA1 := hid a1; have HA2 := hid a2; have HA3 := hid a3;have hs3 := a4.size;clear a1 a2 a3 a4;go_wp2_with fail
 -- the quotient and the rest
 have HQR := hid (bigQuoRem (w1.heap.size + 1) 0 D 3 (w1.heap.size + 2) 0 V (10 ^ k) _ _ _ 70 72 70 v3 v false false false w3 (by omega) (by omega) (by omega) HA1.out rfl rfl rfl (HD.out.fr HF3.out (fun h => h)) rfl rfl HR3.out rfl rfl rfl HA2.out (HV.out.fr HF3.out (fun _ _ h => h))
  (fun g hg => by have := HA3.out g hg; omega) (by have := H10.out; omega) HV10.out
  (fun wx hx => div_any v3 v V (10 ^ k) wx (HA2.out.fr hx (fun g hg h => by have := HA3.out g hg; omega)) ((HV.out.fr HF3.out (fun _ _ h => h)).fr hx (fun g hg h => by have := HVL.out g hg; omega)) H10.out HV10.out HLK.out (by have := HLV.out; omega) ((HT.out.fr HF3.out (fun _ _ h => h)).fr hx (fun i hi h => by omega)))
  (fun g hg => by have := HVL.out g hg; omega))
 refine HQR.out.mono ?_;rintro e w4 ⟨rfl, vq, vr, b1, b2, b3, b4, b5, b6, b7, b8⟩;clear HQR;have b1 : BlkAt w4 (w1.heap.size + 1) #[.bool false, vq, .bool false] 70 := b1;have b2 : BlkAt w4 (w1.heap.size + 2) #[.bool false, vr, .bool false] 70 := b2;have hF4 : Fr NoB w w4 := HF3.out.trans b5 (fun i hi h => by
  rcases h with h | h | h;· omega
  · omega
  · have := HA3.out i h; omega)
 have HE4 := hid (b5.blk HE3.out (fun h => by
  rcases h with h | h | h;· omega
  · omega
  · have := HA3.out _ h; omega))
 have hq6 : ∀ g, natBlk vq = some g → w1.heap.size + 3 ≤ g := fun g hg => by
  rcases b6 g hg with h | h;· have := HA3.out g h; omega
  · omega
 have hr7 : ∀ g, natBlk vr = some g → w1.heap.size + 3 ≤ g := fun g hg => by have := b7 g hg; omega
 have HB1 := hid b1; have HB2 := hid b2; have HB3 := hid b3; have HB4 := hid b4; have HF4 := hid hF4; have HQ6 := hid hq6; have HR7 := hid hr7;have hs4 := b5.size;have HSI := hid (bigSign_nat (w1.heap.size + 2) 0 (V % 10 ^ k) vr w4 (by rw [blk_cell b2]; rfl) (by rw [blk_cell b2]; rfl) (by rw [blk_cell b2]; rfl) b4);clear b1 b2 b3 b4 b5 b6 b7 b8 hF4 hq6 hr7;rw [if_neg hr] at HSI;have hr0 : V % 10 ^ k ≠ 0 := hr;clear hr;have hFg : Fr NoB w4 (w4.alloc (.cells #[.int .i8 0, .bool false, .int .i32 0, .bool false, .slice none 0 0, .bool false] 72)) := (Fr.refl _ _).alloc _;have hG : BlkAt (w4.alloc (.cells #[.int .i8 0, .bool false, .int .i32 0, .bool false, .slice none 0 0, .bool false] 72)) w4.heap.size #[.int .i8 0, .bool false, .int .i32 0, .bool false, .slice none 0 0, .bool false] 72 := blk_new w4 _;have hszg : (w4.alloc (.cells #[.int .i8 0, .bool false, .int .i32 0, .bool false, .slice none 0 0, .bool false] 72)).heap.size = w4.heap.size + 1 := by simp
 have hlr : (limbs (V % 10 ^ k)).length ≤ 900 := by have := limbs_len_blen (V % 10 ^ k) 4 (by have := HRB.out; omega); omega
 have HST1 := hid (bigSet w4.heap.size 3 (w1.heap.size + 2) 0 _ _ 72 70 false (.slice none 0 0) vr [] (limbs (V % 10 ^ k)) _ (by have := blk_lt HB2.out; omega) hG rfl rfl rfl (hFg.blk HB2.out (fun h => h)) rfl rfl rfl (NatAt.nil _) (HB4.out.fr hFg (fun _ _ h => h)) hlr (fun g hg => by cases hg) (fun g hg => by have := HB4.out.lt g hg; omega));have HFG := hid hFg; have HSG2 := hid hszg; have HR0 := hid hr0;clear hFg hG hszg hr0;go_wp2_with (first | (go_at_call 103; refine HSI.out.mono ?_; rintro e w5 ⟨rfl, rfl⟩));refine HST1.out.mono ?_;rintro e w5 ⟨rfl, v6, d1, d2, d3, d4⟩;have d1 : DecAt w5 w4.heap.size 0 false 0 false v6 false := d1;have d4 : Fr (fun i => i = w4.heap.size) (w4.alloc (.cells #[.int .i8 0, .bool false, .int .i32 0, .bool false, .slice none 0 0, .bool false] 72)) w5 := d4.mono (fun i _ h => h.elim (fun h => h) (fun h => by cases h));have hF45 : Fr NoB w4 w5 := HFG.out.trans d4 (fun i hi h => by have h : i = w4.heap.size := h; omega);have d3 : ∀ g, natBlk v6 = some g → w4.heap.size + 1 ≤ g := fun g hg => by
  rcases d3 g hg with h | h;· cases h
  · have := HSG2.out; omega
 have HF5 := hid (HF4.out.trans hF45 (fun _ _ h => h));have hE5 := hF45.blk HE4.out (fun h => h);have ge5 : w5.cell? ⟨w1.heap.size, 0, none⟩ = some (.int .i64 (k : Int)) := by rw [blk_cell hE5]; rfl
 have gg2 := (d1.cells).1.2.2.1;have gf2 := (d1.cells).2.2.2.1;have j1 : IntKind.i64.wrap (-(k : Int)) = -(k : Int) := IntWalk.i64_in _ (by omega);have j2 : IntKind.i32.wrap (-(k : Int)) = -(k : Int) := IntWalk.i32_in _ (by omega);have hFs : Fr (fun i => i = w4.heap.size) w5 (w5.setCell ⟨w4.heap.size, 2, none⟩ (.int .i32 (-(k : Int)))) := Fr.setCell (S := fun i => i = w4.heap.size) (p := ⟨w4.heap.size, 2, none⟩) (Fr.refl _ _) (fun _ => rfl) _;have hF46 : Fr NoB w4 (w5.setCell ⟨w4.heap.size, 2, none⟩ (.int .i32 (-(k : Int)))) := hF45.trans hFs (fun i hi h => by have h : i = w4.heap.size := h; omega);have HD6 := hid (d1.set2 (-(k : Int)));have HV6 := hid (d2.fr hFs (fun g hg h => by have h : g = w4.heap.size := h; have := d3 g hg; omega));have HF46 := hid hF46;clear d1 d2 d3 d4 hF45 hE5 hFs hF46 HST1;go_wp2_with fail;generalize (w5.setCell ⟨w4.heap.size, 2, none⟩ (.int .i32 (-(k : Int)))) = W6 at *
 clear ge5 gg2 gf2 j1 j2;have HF6 := hid (HF4.out.trans HF46.out (fun _ _ h => h));have n1 : W6.cell? ⟨D, 1, none⟩ = some (.bool neg) := ((HD.out.fr HF6.out (fun h => h)).cells).1.2.1;have hglt := blk_lt HD6.out;go_region_held3 (fun w' => w'.cell? ⟨D, 1, none⟩ = some (.bool neg)) (assumption) (first | (go_at_call 94; refine (decimalHalf_any _).mono ?_; rintro e w7 ⟨rfl, vh, f1, f2, f3, f4⟩; have f4 : Fr NoB W6 w7 := ((Fr.refl NoB W6).drew).trans f4 (fun _ _ h => h); have n7 := f4.cell' n1 (fun h => h); have HF7 := hid (HF6.out.trans f4 (fun _ _ h => h)); have HCMP := hid (cmpHalf_any w4.heap.size W6.heap.size (V % 10 ^ k) k v6 vh w7 (HD6.out.fr f4 (fun h => h)) f1 (by omega) (HV6.out.fr f4 (fun _ _ h => h)) f2 HR0.out HRL.out hk1 hk2 (by have := HRB.out; omega) (HT.out.fr HF7.out (fun _ _ h => h))); have HF47 := hid (HF46.out.trans f4 (fun _ _ h => h)); clear f1 f2 f3 f4) | (go_at_call 93; refine HCMP.out.mono ?_; rintro e w8 ⟨rfl, hF⟩; have n8 := hF.cell' n7 (fun h => h); have HF8 := hid (HF7.out.trans hF (fun _ _ h => h)); have HF48 := hid (HF47.out.trans hF (fun _ _ h => h)); clear hF; have HSH := hid (should_any mode hm (w1.heap.size + 1) 0 (V / 10 ^ k) vq neg (cmpZ (V % 10 ^ k + V % 10 ^ k) (10 ^ k)) (cmpZ_cases _ _) w8 (by rw [blk_cell (HF48.out.blk HB1.out (fun h => h))]; rfl) (by rw [blk_cell (HF48.out.blk HB1.out (fun h => h))]; rfl) (HB3.out.fr HF48.out (fun _ _ h => h)) HQ0.out (by have := limbs_len_blen (V / 10 ^ k) 4 (by have := HQB.out; omega); omega)); rw [hadd] at HSH) | (go_at_call 92; refine HSH.out.mono ?_; rintro e w9 ⟨rfl, hF⟩; have n9 := hF.cell' n8 (fun h => h); have HF9 := hid (HF8.out.trans hF (fun _ _ h => h)); have HF49 := hid (HF48.out.trans hF (fun _ _ h => h)); clear hF));clear n1 n7 n8;have HE9 := hid (HF49.out.blk HE4.out (fun h => h));have HB19 := hid (HF49.out.blk HB1.out (fun h => h));have HB39 := hid (HB3.out.fr HF49.out (fun _ _ h => h));have hs9 := HF49.out.size;have hq1b : blen (V / 10 ^ k + 1) ≤ 201 := by
  refine blen_under ?_;have h2 := (blen_bounds HQ0.out).2.1;have h3 : 2 ^ blen (V / 10 ^ k) ≤ 2 ^ 200 := Nat.pow_le_pow_right (by omega) HQB.out;have h4 : (2 : Nat) ^ 201 = 2 * 2 ^ 200 := by rw [← Nat.pow_succ']
  omega
 have hYl : Y ≤ V / 10 ^ k + 1 := by
  rw [← hY];split
  · exact Nat.div_le_self _ _
  · exact Nat.le_refl _
 have hkk2 : kk ≤ 100 := by split at hK <;> omega
 have hq2b : blen Y ≤ 201 := by
  refine blen_under ?_;have h1 := hYl;have h2 := (blen_bounds (Nat.succ_ne_zero (V / 10 ^ k))).2.1;have h3 : 2 ^ blen (V / 10 ^ k + 1) ≤ 2 ^ 201 := Nat.pow_le_pow_right (by omega) hq1b;exact Nat.lt_of_lt_of_le (Nat.lt_of_le_of_lt h1 h2) h3
 have hq2d : Lib.nDigits Y ≤ 100 := by
  have h1 := hYl;have h2 := nDigits_mono h1;have h3 := nDigits_succ_le (V / 10 ^ k);have h4 := HQD.out;omega
 have HQ2B := hid hq2b; have HQ2D := hid hq2d;clear hq1b hq2b hq2d;have HRA := hid (roundAddOne_any (w1.heap.size + 1) w1.heap.size (V / 10 ^ k) vq (k : Int) w9 (by omega) HB19.out HE9.out HB39.out (fun g hg => by have := HQ6.out g hg; omega) HQ0.out (by have := HQB.out; omega) (HT.out.fr HF9.out (fun _ _ h => h)) (by omega) (by omega) (fun g hg => by have := HQ6.out g hg; omega) (by omega) (by omega));have HYY := hid hY; have HKK := hid hK;clear hY hK hYl;go_wp2_with fail;refine HRA.out.mono ?_;rintro e wa ⟨rfl, va, x1, x2, x3, x4, x5⟩;rw [HKK.out] at x2;rw [HYY.out] at x3;clear HRA;have hFA : Fr NoB w wa := HF9.out.trans x5 (fun i hi h => by
  rcases h with h | h | h;· omega
  · omega
  · have := HQ6.out i h; omega)
 have x4 : ∀ g, natBlk va = some g → w1.heap.size + 3 ≤ g := fun g hg => by
  rcases x4 g hg with h | h;· exact HQ6.out g h
  · omega
 have HFA := hid hFA; have HX1 := hid x1; have HX2 := hid x2; have HX3 := hid x3; have HX4 := hid x4;clear hFA x1 x2 x3 x4 x5;go_wp2_with fail;have HST := hid (bigSet D 3 (w1.heap.size + 1) 0 _ _ 72 70 false v va (limbs V) (limbs Y) wa (by omega) (HD.out.fr HFA.out (fun h => h)) rfl rfl rfl HX1.out rfl rfl rfl (HV.out.fr HFA.out (fun _ _ h => h)) HX3.out (by have := limbs_len_blen Y 4 (by have := HQ2B.out; omega); omega) (fun g hg => by have := HVL.out g hg; have := HVD.out g hg; omega) (fun g hg => by have := HX4.out g hg; omega));refine HST.out.mono ?_;rintro e w10 ⟨rfl, v5, d1, d2, d3, d4⟩;have d1 : DecAt w10 D 0 neg e0 false v5 false := d1;have hF5 : Fr (fun i => i = D ∨ natBlk v = some i) w w10 := (HFA.out.mono (fun _ _ h => h.elim)).trans d4 (fun _ _ h => h);have hs5 := HFA.out.size;have hv5 : ∀ g, natBlk v5 = some g → natBlk v = some g ∨ w.heap.size ≤ g := fun g hg => by
  rcases d3 g hg with h | h;· exact .inl h
  · exact .inr (by omega)
 have hE5 : BlkAt w10 w1.heap.size #[.int .i64 ((kk : Int))] 2 := d4.blk HX2.out (fun h => by
  rcases h with h | h;· omega
  · have := HVL.out _ h; omega)
 have g2 := (d1.cells).1.2.2.1;have ge : w10.cell? ⟨w1.heap.size, 0, none⟩ = some (.int .i64 ((kk : Int))) := by rw [blk_cell hE5]; rfl
 have hT5 : Thr w10 := HT.out.fr hF5 (fun i hi h => by
  rcases h with h | h;· omega
  · have := HV19.out i h; omega)
 have HSE := hid (se_end D cb neg e0 v5 Y kk p 80 traps (modeStr mode) w10 d1 d2 (fun g hg => by
  rcases hv5 g hg with h | h;· exact HVD.out g h
  · omega) (HC.out.fr hF5 (fun h => by
  rcases h with h | h;· exact hcD h
  · exact HCV.out _ h rfl)) (by first | exact .inr (.inl rfl) | exact .inr (.inr rfl)) helo hehi (by omega) (by have := HQ2B.out; omega) HQ2D.out hT5)
 have i1 : IntKind.i64.wrap e0 = e0 := IntWalk.i64_in _ (by omega);have N := hid (show ∀ w', DecAt w' D 0 neg (e0 + ((kk : Nat) : Int)) false v5 false → NatAt w' v5 (limbs Y) → Fr (fun i => i = D) w10 w' → RndRes w D neg v V e0 80 Y (e0 + ((kk : Nat) : Int)) (.returned (.int .u32 80)) w' from
  fun w' m1 m2 m3 => ⟨rfl, v5, m1, m2, hv5, hF5.trans m3 (fun i _ h => .inl h)⟩)
 clear d1 d2 d3 d4 hF5 hE5 hT5 hv5 HST;go_wp2_with fail;go_region_with (first | (go_at_call 60; refine HSE.out.mono ?_; rintro e w9 ⟨rfl, m1, m2, m3⟩; have M := hid (N.out w9 m1 m2 m3); clear m1 m2 m3));all_goals
  go_wp2_with fail;go_ret;exact M.out
end Go.Proofs.YteokhhepnoelhaaGreatDoor
