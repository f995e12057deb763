/-
  Rounder.Round at more figures than the precision: cut off, and rounded by the mode.
-/
import Derived.Test.YteokhhepnoelhaaGreatDoorXbn
set_option linter.unusedVariables false
set_option linter.unusedSimpArgs false
namespace Go.Proofs.YteokhhepnoelhaaGreatDoor
open Go.RowKit
theorem cmpHalf_any (D H r k : Nat) (v u : Value) (w : World) (hD : DecAt w D 0 false (-(k : Int)) false v false) (hH : DecAt w H 0 false (-1) false u false) (hDH : D ≠ H) (hv : NatAt w v (limbs r)) (hu : NatAt w u (limbs 5)) (hr0 : r ≠ 0) (hr : r < 10 ^ k) (hk1 : 1 ≤ k) (hk : k ≤ 60) (hb : blen r < 300) (hT : Thr w) :
 Calls Tryz.prog 93 #[.pointer (some ⟨D, 0, none⟩), .pointer (some ⟨H, 0, none⟩)] w (IntRes64 w (cmpZ (r + r) (10 ^ k))) := by
 by_cases h : k = 1;· subst h;rw [← half_one];exact cmpHalf_one D H r v u w hD hH hDH hv hu hr0
 · exact cmpHalf_more D H r k v u w hD hH hDH hv hu hr0 hr (by omega) hk hb hT
theorem se_end (D cb : Nat) (neg : Bool) (e0 : Int) (v : Value) (V k p : Nat) (fl traps : Int) (r : ByteArray) (W : World) (hD : DecAt W D 0 neg e0 false v false) (hv : NatAt W v (limbs V)) (hvD : ∀ g, natBlk v = some g → g ≠ D) (hC : CtxAt W cb (p : Int) 100000 (-100000) traps r)
 (hfl : fl = 0 ∨ fl = 64 ∨ fl = 80) (helo : -90000 ≤ e0) (hehi : e0 ≤ 90000) (hk : k ≤ 100) (hb : blen V < 300) (hnd : Lib.nDigits V ≤ 100) (hT : Thr W) :
 Calls Tryz.prog 60 #[.pointer (some ⟨D, 0, none⟩), .pointer (some ⟨cb, 0, none⟩), .int .i64 (-1), .int .u32 fl, .slice (some ⟨W.heap.size, 0, none⟩) 2 2] (W.drew.alloc (.cells #[.int .i64 e0, .int .i64 (k : Int)] 2))
  fun e w' => e = .returned (.int .u32 fl) ∧ DecAt w' D 0 neg (e0 + k) false v false ∧ NatAt w' v (limbs V) ∧ Fr (fun i => i = D) W w' := by
 have hFX : Fr NoB W (W.drew.alloc (.cells #[.int .i64 e0, .int .i64 (k : Int)] 2)) := (Fr.refl _ _).drew.alloc _;have hX : BlkAt (W.drew.alloc (.cells #[.int .i64 e0, .int .i64 (k : Int)] 2)) W.heap.size #[.int .i64 e0, .int .i64 (k : Int)] 2 := blk_new W.drew _;have hn1 := Lib.nDigits_pos V;refine (setExponent_two_asked D cb 0 neg e0 false v false ((Lib.nDigits V : Nat) : Int) fl e0 (k : Int) W.heap.size 2 _ (hD.fr hFX (fun h => h)) (p : Int) traps r (hC.fr hFX (fun h => h)) (by rw [blk_cell hX]; rfl) (by rw [blk_cell hX]; rfl) (by omega) (by omega) (by omega) (by omega) (by omega) (by omega) (by omega) (by omega) (by omega) (by omega) hfl
  (digOk_all V hb D 0 neg e0 v _ (hD.fr hFX (fun h => h)) (hv.fr hFX (fun _ _ h => h)) (hT.fr hFX (fun _ _ h => h)))).mono ?_
 rintro e w' ⟨rfl, wa, hFa, rfl⟩;have hF1 : Fr NoB W wa := hFX.trans hFa (fun _ _ h => h);have hF2 : Fr (fun i => i = D) W (wa.setCell ⟨D, 2, none⟩ (.int .i32 (e0 + (k : Int)))) := Fr.setCell (S := fun i => i = D) (p := ⟨D, 2, none⟩) (hF1.mono (fun _ _ h => h.elim)) (fun _ => rfl) _;exact ⟨rfl, (hD.fr hF1 (fun h => h)).set2 _, hv.fr hF2 (fun g hg h => hvD g hg h), hF2⟩
set_option maxRecDepth 100000 in
set_option maxHeartbeats 8000000 in
theorem round_exact (D cb mode : Nat) (hm : mode < 8) (neg : Bool) (e0 : Int) (v : Value) (V p k : Nat) (traps : Int) (w : World) (hD : DecAt w D 0 neg e0 false v false) (hv : NatAt w v (limbs V)) (hvD : ∀ g, natBlk v = some g → g ≠ D) (hD19 : 19 ≤ D) (hv19 : ∀ g, natBlk v = some g → 19 ≤ g)
 (hC : CtxAt w cb (p : Int) 100000 (-100000) traps (modeStr mode)) (hcD : cb ≠ D) (hcv : ∀ g, natBlk v = some g → cb ≠ g) (helo : -90000 ≤ e0) (hehi : e0 ≤ 90000) (hp : 1 ≤ p) (hp' : p ≤ 60) (hb : blen V ≤ 200) (hT : Thr w) (hnd : Lib.nDigits V = p + k) (hk1 : 1 ≤ k) (hk2 : k ≤ 60) (hr : V % 10 ^ k = 0) :
 Calls Tryz.prog 61 #[.string (modeStr mode), .pointer (some ⟨cb, 0, none⟩), .pointer (some ⟨D, 0, none⟩), .pointer (some ⟨D, 0, none⟩), .bool true] w (RndRes w D neg v V e0 64 (V / 10 ^ k) (e0 + ((k : Nat) : Int))) := by
 have hV0 : V ≠ 0 := by
  intro h;rw [h, Lib.nDigits_small (by omega)] at hnd;omega
 have hV10 : 10 ^ k ≤ V := by
  have h1 := pow_le_nDigits V V (Nat.le_refl _) hV0;have h2 : 10 ^ k ≤ 10 ^ (Lib.nDigits V - 1) := Nat.pow_le_pow_right (by omega) (by omega);omega
 have hlV : (limbs V).length ≤ 4 := limbs_len_blen V 4 (by omega);have hlk : (limbs (10 ^ k)).length ≤ 4 := limbs_len_blen _ 4 (by have := pow10_bits hk2; omega);have h10 : 2 ≤ 10 ^ k := by
  have := ten_pred hk1;have := ten_pos (k - 1);omega
 have hrl : V % 10 ^ k < 10 ^ k := Nat.mod_lt _ (ten_pos k);have hrb : blen (V % 10 ^ k) ≤ 200 := by
  refine blen_under ?_;have h2 : 10 ^ k ≤ 10 ^ 60 := Nat.pow_le_pow_right (by omega) hk2;have h3 : (10 : Nat) ^ 60 < 2 ^ 200 := by decide
  omega
 have hqb : blen (V / 10 ^ k) ≤ 200 := by
  refine blen_under ?_;have h1 : V / 10 ^ k ≤ V := Nat.div_le_self _ _;have h2 := (blen_bounds hV0).2.1;have h3 : 2 ^ blen V ≤ 2 ^ 200 := Nat.pow_le_pow_right (by omega) hb;omega
 have hq0 : V / 10 ^ k ≠ 0 := by have := Nat.div_pos hV10 (ten_pos k); omega
 have hqd : Lib.nDigits (V / 10 ^ k) = p := nDigits_div hp hnd;have HQB := hid hqb; have HQ0 := hid hq0; have HQD := hid hqd; have HRL := hid hrl; have HRB := hid hrb; have HV10 := hid hV10; have H10 := hid h10; have HLV := hid hlV; have HLK := hid hlk;clear hqb hq0 hqd hrl hrb hV10 h10 hlV hlk;have HN := hid (digOk_all V (by omega) D 0 neg e0 v w hD hv hT);have HSG := hid (fun (wx : World) (h : Fr NoB w wx) => decSign_V D neg e0 v V wx (h.blk hD (fun h => h)) (hv.fr h (fun _ _ h => h)));rw [if_neg hV0] at HSG;have HD := hid hD; have HV := hid hv; have HC := hid hC; have HVD := hid hvD; have HT := hid hT; have HV19 := hid hv19; have HCV := hid hcv;have hvl : ∀ g, natBlk v = some g → g < w.heap.size := fun g h => hv.lt g h
 have HVL := hid hvl;have hdlt := blk_lt hD;have hclt : cb < w.heap.size := World.block_lt_of_cell? w ⟨cb, 0, none⟩ hC.c0;have hq := fun w => eql51_same ⟨D, 0, none⟩ w
 have e2 : ((p : Int) == 0) = false := beq_eq_false_iff_ne.2 (by omega);have hnd2 : ((Lib.nDigits V : Nat) : Int) - (p : Int) = (k : Int) := by omega
 have t1 : decide (0 < (k : Int)) = true := decide_eq_true (by omega);have hadj : decide (e0 + ((Lib.nDigits V : Nat) : Int) - 1 < -100000) = false := decide_eq_false (by omega);have hbd1 : ((Lib.nDigits V : Nat) : Int) ≤ 1000 := by omega
 have hsg : (if neg then (-1 : Int) else 1) = -1 ∨ (if neg then (-1 : Int) else 1) = 1 := by
  cases neg;· exact .inr rfl
  · exact .inl rfl
 clear hD hv hC hvD hT hV0 hv19 hvl hcv hb;generalize Lib.nDigits V = nd at *
 clear hnd;generalize (if neg then (-1 : Int) else 1) = sg at *
 have t2 : (sg != 0) = true := by rcases hsg with h | h <;> rw [h] <;> rfl
 clear hsg;go_enter Tryz.func61, Tryz.ntmps61;go_wp2_with (first | (go_at_call 99; go_in));refine HN.out.mono ?_;rintro e w1 ⟨rfl, hF⟩;have HF := hid hF;obtain ⟨c0, c1, c2, c3, c4⟩ := HC.out.fr hF (fun h => h);obtain ⟨⟨h0, h1, h2, h3, h4, h5⟩, f0, f1, f2, f3, f4, f5⟩ := (HD.out.fr hF (fun h => h)).cells;clear hF h0 h1 h3 h4 h5 f0 f1 f3 f4 f5;go_wp2_with fail;refine (HSG.out w1 HF.out).mono ?_;rintro e w2 ⟨rfl, rfl⟩;go_wp2_with fail;have hs1 := HF.out.size;have hFa : Fr NoB w1 (((w1.alloc (.cells #[.int .i64 (k : Int)] 2)).alloc (.cells #[.bool false, .slice none 0 0, .bool false] 70)).alloc (.cells #[.bool false, .slice none 0 0, .bool false] 70)) := (((Fr.refl _ _).alloc _).alloc _).alloc _;have hE : BlkAt (((w1.alloc (.cells #[.int .i64 (k : Int)] 2)).alloc (.cells #[.bool false, .slice none 0 0, .bool false] 70)).alloc (.cells #[.bool false, .slice none 0 0, .bool false] 70)) w1.heap.size #[.int .i64 (k : Int)] 2 := blk_alloc (blk_alloc (blk_new w1 _) _) _;have hQ : BlkAt (((w1.alloc (.cells #[.int .i64 (k : Int)] 2)).alloc (.cells #[.bool false, .slice none 0 0, .bool false] 70)).alloc (.cells #[.bool false, .slice none 0 0, .bool false] 70)) (w1.heap.size + 1) #[.bool false, .slice none 0 0, .bool false] 70 := by
  have := blk_new (w1.alloc (.cells #[.int .i64 (k : Int)] 2)) (.cells #[.bool false, .slice none 0 0, .bool false] 70 (0, 0));rw [World.size_alloc] at this;exact blk_alloc this _
 have hR : BlkAt (((w1.alloc (.cells #[.int .i64 (k : Int)] 2)).alloc (.cells #[.bool false, .slice none 0 0, .bool false] 70)).alloc (.cells #[.bool false, .slice none 0 0, .bool false] 70)) (w1.heap.size + 2) #[.bool false, .slice none 0 0, .bool false] 70 := by
  have := blk_new ((w1.alloc (.cells #[.int .i64 (k : Int)] 2)).alloc (.cells #[.bool false, .slice none 0 0, .bool false] 70)) (.cells #[.bool false, .slice none 0 0, .bool false] 70 (0, 0));rw [World.size_alloc, World.size_alloc] at this;exact this
 have hszW : (((w1.alloc (.cells #[.int .i64 (k : Int)] 2)).alloc (.cells #[.bool false, .slice none 0 0, .bool false] 70)).alloc (.cells #[.bool false, .slice none 0 0, .bool false] 70)).heap.size = w1.heap.size + 3 := by simp
 have HFW := hid (HF.out.trans hFa (fun _ _ h => h));have HE := hid hE; have HQ := hid hQ; have HR := hid hR; have HSW := hid hszW;clear hFa hE hQ hR hszW c0 c1 c2 c3 c4 h2 f2;generalize (((w1.alloc (.cells #[.int .i64 (k : Int)] 2)).alloc (.cells #[.bool false, .slice none 0 0, .bool false] 70)).alloc (.cells #[.bool false, .slice none 0 0, .bool false] 70)) = W at *
 -- ten to the power
 have hwS := HSW.out;refine (tableExp10 (w1.heap.size + 1) 0 _ 70 false false k W HQ.out rfl rfl rfl (HT.out.fr HFW.out (fun _ _ h => h)) hk1 (by omega) (by omega)).mono ?_;rintro e w3 ⟨rfl, v3, a1, a2, a3, a4⟩;have a1 : BlkAt w3 (w1.heap.size + 1) #[.bool false, v3, .bool false] 70 := a1;have HF3 := hid (HFW.out.trans a4 (fun i hi h => by have h : i = w1.heap.size + 1 := h; omega) : Fr NoB w w3);have HE3 := hid (a4.blk HE.out (by show ¬ w1.heap.size = w1.heap.size + 1; omega));have HR3 := hid (a4.blk HR.out (by show ¬ w1.heap.size + 2 = w1.heap.size + 1; omega));have HA1 := hid a1; have HA2 := hid a2; have HA3 := hid a3;have hs3 := a4.size;clear a1 a2 a3 a4;go_wp2_with fail
 -- the quotient and the rest
 have HQR := hid (bigQuoRem (w1.heap.size + 1) 0 D 3 (w1.heap.size + 2) 0 V (10 ^ k) _ _ _ 70 72 70 v3 v false false false w3 (by omega) (by omega) (by omega) HA1.out rfl rfl rfl (HD.out.fr HF3.out (fun h => h)) rfl rfl HR3.out rfl rfl rfl HA2.out (HV.out.fr HF3.out (fun _ _ h => h))
  (fun g hg => by have := HA3.out g hg; omega) (by have := H10.out; omega) HV10.out
  (fun wx hx => div_any v3 v V (10 ^ k) wx (HA2.out.fr hx (fun g hg h => by have := HA3.out g hg; omega)) ((HV.out.fr HF3.out (fun _ _ h => h)).fr hx (fun g hg h => by have := HVL.out g hg; omega)) H10.out HV10.out HLK.out (by have := HLV.out; omega) ((HT.out.fr HF3.out (fun _ _ h => h)).fr hx (fun i hi h => by omega)))
  (fun g hg => by have := HVL.out g hg; omega))
 refine HQR.out.mono ?_;rintro e w4 ⟨rfl, vq, vr, b1, b2, b3, b4, b5, b6, b7, b8⟩;clear HQR;have b1 : BlkAt w4 (w1.heap.size + 1) #[.bool false, vq, .bool false] 70 := b1;have b2 : BlkAt w4 (w1.heap.size + 2) #[.bool false, vr, .bool false] 70 := b2;have hF4 : Fr NoB w w4 := HF3.out.trans b5 (fun i hi h => by
  rcases h with h | h | h;· omega
  · omega
  · have := HA3.out i h; omega)
 have HE4 := hid (b5.blk HE3.out (fun h => by
  rcases h with h | h | h;· omega
  · omega
  · have := HA3.out _ h; omega))
 have hq6 : ∀ g, natBlk vq = some g → w1.heap.size + 3 ≤ g := fun g hg => by
  rcases b6 g hg with h | h;· have := HA3.out g h; omega
  · omega
 have hr7 : ∀ g, natBlk vr = some g → w1.heap.size + 3 ≤ g := fun g hg => by have := b7 g hg; omega
 have HB1 := hid b1; have HB2 := hid b2; have HB3 := hid b3; have HB4 := hid b4; have HF4 := hid hF4; have HQ6 := hid hq6; have HR7 := hid hr7;have hs4 := b5.size;have HSI := hid (bigSign_nat (w1.heap.size + 2) 0 (V % 10 ^ k) vr w4 (by rw [blk_cell b2]; rfl) (by rw [blk_cell b2]; rfl) (by rw [blk_cell b2]; rfl) b4);clear b1 b2 b3 b4 b5 b6 b7 b8 hF4 hq6 hr7;rw [if_pos hr] at HSI;go_wp2_with (first | (go_at_call 103; refine HSI.out.mono ?_; rintro e w5 ⟨rfl, rfl⟩));have HST := hid (bigSet D 3 (w1.heap.size + 1) 0 _ _ 72 70 false v vq (limbs V) (limbs (V / 10 ^ k)) w4 (by omega) (HD.out.fr HF4.out (fun h => h)) rfl rfl rfl HB1.out rfl rfl rfl (HV.out.fr HF4.out (fun _ _ h => h)) HB3.out (by have := limbs_len_blen (V / 10 ^ k) 4 (by have := HQB.out; omega); omega) (fun g hg => by have := HVL.out g hg; have := HVD.out g hg; omega) (fun g hg => by have := HQ6.out g hg; omega));refine HST.out.mono ?_;rintro e w5 ⟨rfl, v5, d1, d2, d3, d4⟩;have d1 : DecAt w5 D 0 neg e0 false v5 false := d1;have hF5 : Fr (fun i => i = D ∨ natBlk v = some i) w w5 := (HF4.out.mono (fun _ _ h => h.elim)).trans d4 (fun _ _ h => h);have hs5 := HF4.out.size;have hv5 : ∀ g, natBlk v5 = some g → natBlk v = some g ∨ w.heap.size ≤ g := fun g hg => by
  rcases d3 g hg with h | h;· exact .inl h
  · exact .inr (by omega)
 have hE5 : BlkAt w5 w1.heap.size #[.int .i64 ((k : Int))] 2 := d4.blk HE4.out (fun h => by
  rcases h with h | h;· omega
  · have := HVL.out _ h; omega)
 have g2 := (d1.cells).1.2.2.1;have ge : w5.cell? ⟨w1.heap.size, 0, none⟩ = some (.int .i64 ((k : Int))) := by rw [blk_cell hE5]; rfl
 have hT5 : Thr w5 := HT.out.fr hF5 (fun i hi h => by
  rcases h with h | h;· omega
  · have := HV19.out i h; omega)
 have HSE := hid (se_end D cb neg e0 v5 (V / 10 ^ k) (k) p 64 traps (modeStr mode) w5 d1 d2 (fun g hg => by
  rcases hv5 g hg with h | h;· exact HVD.out g h
  · omega) (HC.out.fr hF5 (fun h => by
  rcases h with h | h;· exact hcD h
  · exact HCV.out _ h rfl)) (by first | exact .inr (.inl rfl) | exact .inr (.inr rfl)) helo hehi (by omega) (by have := HQB.out; omega) (by rw [HQD.out]; omega) hT5)
 have i1 : IntKind.i64.wrap e0 = e0 := IntWalk.i64_in _ (by omega);have N := hid (show ∀ w', DecAt w' D 0 neg (e0 + ((k : Nat) : Int)) false v5 false → NatAt w' v5 (limbs (V / 10 ^ k)) → Fr (fun i => i = D) w5 w' → RndRes w D neg v V e0 64 (V / 10 ^ k) (e0 + ((k : Nat) : Int)) (.returned (.int .u32 64)) w' from
  fun w' m1 m2 m3 => ⟨rfl, v5, m1, m2, hv5, hF5.trans m3 (fun i _ h => .inl h)⟩)
 clear d1 d2 d3 d4 hF5 hE5 hT5 hv5 HST;go_wp2_with fail;go_region_with (first | (go_at_call 60; refine HSE.out.mono ?_; rintro e w9 ⟨rfl, m1, m2, m3⟩; have M := hid (N.out w9 m1 m2 m3); clear m1 m2 m3));all_goals
  go_wp2_with fail;go_ret;exact M.out
end Go.Proofs.YteokhhepnoelhaaGreatDoor
