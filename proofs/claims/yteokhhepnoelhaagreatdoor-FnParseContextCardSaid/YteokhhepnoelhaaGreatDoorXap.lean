/-
  NumDigits where two rows of the table differ.
-/
import Derived.Test.YteokhhepnoelhaaGreatDoorXan
import Derived.Test.YteokhhepnoelhaaGreatDoorXao
import Derived.Test.YteokhhepnoelhaaGreatDoorXal
import Derived.OwnWalk
set_option linter.unusedVariables false
set_option linter.unusedSimpArgs false
namespace Go.Proofs.YteokhhepnoelhaaGreatDoor
open Go.RowKit
def ndOf (V d : Nat) : Int := if V < 10 ^ d then (d : Int) else (d : Int) + 1
def NdRes (w : World) (V d : Nat) (e : Ending) (w' : World) : Prop := e = .returned (.int .i64 (ndOf V d)) ∧ Fr NoB w w'
theorem cmpZ_lt {V M : Nat} (h : V < M) : cmpZ V M = -1 := by unfold cmpZ; rw [if_pos h]
theorem cmpZ_ge {V M : Nat} (h : ¬ V < M) : cmpZ V M = 0 ∨ cmpZ V M = 1 := by unfold cmpZ; rw [if_neg h]; split <;> simp
set_option maxRecDepth 100000 in
set_option maxHeartbeats 2000000 in
theorem numDigits_differ (D o : Nat) (ca : Array Value) (ta : TypeId) (v : Value) (V b d d' : Nat) (w : World) (hD : BlkAt w D ca ta) (a0 : ca[o]? = some (.bool false)) (a1 : ca[o + 1]? = some v) (a2 : ca[o + 2]? = some (.bool false)) (hv : NatAt w v (limbs V)) (hT : Thr w) (hb : blen V = b) (hb1 : 1 ≤ b) (hb2 : b < 128) (hd : tabDigits b = d) (ht : tabDigits (b + 1) = d') (hdd : d ≠ d') (hV : V ≠ 0) (hdz : d ≤ 100) :
 Calls Tryz.prog 132 #[.pointer (some ⟨D, o, none⟩)] w (NdRes w V d) := by
 have h1 : w.cell? ⟨D, o + 1, none⟩ = some v := by rw [blk_cell hD]; exact a1
 have HB := bigBitLen D o v V w h1 hv;rw [hb] at HB;have HB := hid HB;have HTB := digitsLookup b w hT hb1 (by omega);unfold TabRes at HTB;rw [hd] at HTB;have HTB := hid HTB;clear hd;have HT := hid hT;have b0 : ((b : Int) == 0) = false := beq_eq_false_iff_ne.2 (by omega);have b1 : decide ((b : Int) < 128) = true := decide_eq_true (by omega);have b2 : (b : Int) ≤ 128 := by omega
 have b3 : IntKind.i64.wrap ((b : Int) + 1) = (b : Int) + 1 := IntWalk.i64_in _ (by omega);have hlt : (b : Int) < 128 := by omega
 have B4 := hid (show ((d' : Int) == (d : Int)) = false from beq_eq_false_iff_ne.2 (by omega));have HD := hid hD; have HV := hid hv; have HA0 := hid a0; have HA1 := hid a1; have HA2 := hid a2;have HVZ := hid hV; have HDD := hid hdd; have HDZ := hid hdz;clear h1 hv hT hb hD a0 a1 a2 hV hdd hdz;go_enter Tryz.func132, Tryz.ntmps132;go_wp2_with fail;refine HB.out.mono ?_;rintro e w1 ⟨rfl, rfl⟩;go_wp2_with fail;refine HTB.out.mono ?_;rintro e w2 ⟨E, v1, v2, rfl, hEl, hE, hn, hF⟩;have hFd : Fr NoB w2 w2.drew := (Fr.refl _ _).drew;have hN := digitsLookup (b + 1) w2.drew ((HT.out.fr hF (fun _ _ h => h)).fr hFd (fun _ _ h => h)) (by omega) (by omega);rw [show ((b + 1 : Nat) : Int) = (b : Int) + 1 by omega] at hN;unfold TabRes at hN;rw [ht] at hN;have HN := hid hN;have e0 : w2.cell? ⟨E, 0, none⟩ = some (.int .i64 (d : Int)) := by rw [blk_cell hE]; rfl
 have e0d : w2.drew.cell? ⟨E, 0, none⟩ = some (.int .i64 (d : Int)) := e0;have HE := hid hE; have HF := hid hF; have HN1 := hid hn; have HEL := hid hEl;clear hE hn hF hFd hN ht hEl;go_wp2_with fail;go_region_with (first | (go_at_call 166; refine HN.out.mono ?_; rintro e w3 ⟨E', v1', v2', rfl, hEl', hE', hn', hF'⟩; have k3 : w3.cell? ⟨E', 0, none⟩ = some (.int .i64 (d' : Int)) := (by rw [blk_cell hE']; rfl); have k4 : w3.cell? ⟨E, 0, none⟩ = some (.int .i64 (d : Int)) := hF'.cell' e0d (fun h => h); have HF3 := hid (show Fr NoB w w3 from HF.out.drew.trans hF' (fun _ _ h => h)); have HG3 := hid (show Fr NoB w2 w3 from (Fr.refl NoB w2).drew.trans hF' (fun _ _ h => h)); clear hE' hn' hF'));all_goals
  have HS : Hid (Calls Tryz.prog 103 #[.pointer (some ⟨D, o, none⟩)] w3 fun e w' => e = .returned (.int .i64 1) ∧ w3 = w') := hid (by
   obtain ⟨n, hn⟩ : ∃ n, (limbs V).length = n := ⟨_, rfl⟩
   have hn1 : 1 ≤ n := by have := limbs_len_pos HVZ.out; omega
   obtain ⟨Av, cv, hvs⟩ := HV.out.shape;rw [hn] at hvs;have hD3 : BlkAt w3 D ca ta := HF3.out.blk HD.out (fun h => h);have := bigSign_any D o false Av n cv false w3 (by rw [blk_cell hD3]; exact HA0.out) (by rw [blk_cell hD3]; rw [HA1.out, hvs]) (by rw [blk_cell hD3]; exact HA2.out);rw [show bigSign false n false = 1 by unfold bigSign; rw [if_neg (by simp), if_neg (by omega), if_neg (by simp)]] at this;exact this)
  have HC : Hid (Calls Tryz.prog 142 #[.pointer (some ⟨D, o, none⟩), .pointer (some ⟨E, 1, none⟩)] w3 fun e w' => e = .returned (.int .i64 (cmpZ V (10 ^ d))) ∧ Fr NoB w3 w') := hid (by
   have hD3 : BlkAt w3 D ca ta := HF3.out.blk HD.out (fun h => h);have hE3 := HG3.out.blk HE.out (fun h => h);have hDlt := blk_lt HD.out;have hEl := HEL.out;exact bigCmp D o E 1 V (10 ^ d) ca _ ta 219 v v1 w3 (by omega) hD3 hE3 HA0.out HA1.out HA2.out rfl rfl rfl (HV.out.fr HF3.out (fun _ _ h => h)) (HN1.out.fr HG3.out (fun _ _ h => h)))
  have b4 := B4.out;have b5 : ¬ (d' : Int) = (d : Int) := by have := HDD.out; omega
  have hd1 : (d : Int) ≤ 100 := by have := HDZ.out; omega
  go_wp2_with (first | (go_at_call 103; refine HS.out.mono ?_; rintro e w4 ⟨rfl, rfl⟩));refine HC.out.mono ?_;rintro e w4 ⟨rfl, hF4⟩;have k5 : w4.cell? ⟨E, 0, none⟩ = some (.int .i64 (d : Int)) := hF4.cell' k4 (fun h => h);have HF4 := hid (HF3.out.trans hF4 (fun _ _ h => h));clear hF4;by_cases hlt2 : V < 10 ^ d;· have N := hid (show NdRes w V d (.returned (.int .i64 (d : Int))) w4 from ⟨by rw [ndOf, if_pos hlt2], HF4.out⟩);rw [cmpZ_lt hlt2];clear hlt2;go_wp2_with fail;go_ret;exact N.out
  · have N := hid (show NdRes w V d (.returned (.int .i64 ((d : Int) + 1))) w4 from ⟨by rw [ndOf, if_neg hlt2], HF4.out⟩);rcases cmpZ_ge hlt2 with h | h;all_goals
     rw [h];clear hlt2 h;go_wp2_with fail;go_ret;exact N.out
set_option maxRecDepth 100000 in
set_option maxHeartbeats 2000000 in
theorem numDigits_128 (D o : Nat) (ca : Array Value) (ta : TypeId) (v : Value) (V b d : Nat) (w : World) (hD : BlkAt w D ca ta) (a0 : ca[o]? = some (.bool false)) (a1 : ca[o + 1]? = some v) (a2 : ca[o + 2]? = some (.bool false)) (hv : NatAt w v (limbs V)) (hT : Thr w) (hb : blen V = b) (hb2 : b = 128) (hd : tabDigits b = d) (hV : V ≠ 0) (hdz : d ≤ 100) :
 Calls Tryz.prog 132 #[.pointer (some ⟨D, o, none⟩)] w (NdRes w V d) := by
 have h1 : w.cell? ⟨D, o + 1, none⟩ = some v := by rw [blk_cell hD]; exact a1
 have HB := bigBitLen D o v V w h1 hv;rw [hb] at HB;have HB := hid HB;have HTB := digitsLookup b w hT (by omega) (by omega);unfold TabRes at HTB;rw [hd] at HTB;have HTB := hid HTB;clear hd;have HT := hid hT;have b0 : ((b : Int) == 0) = false := beq_eq_false_iff_ne.2 (by omega);have b1 : decide ((b : Int) < 128) = false := decide_eq_false (by omega);have b2 : (b : Int) ≤ 128 := by omega
 have b3 : ¬ (b : Int) < 128 := by omega
 have HD := hid hD; have HV := hid hv; have HA0 := hid a0; have HA1 := hid a1; have HA2 := hid a2;have HVZ := hid hV; have HDZ := hid hdz;clear h1 hv hT hb hD a0 a1 a2 hV hdz hb2;go_enter Tryz.func132, Tryz.ntmps132;go_wp2_with fail;refine HB.out.mono ?_;rintro e w1 ⟨rfl, rfl⟩;go_wp2_with fail;refine HTB.out.mono ?_;rintro e w2 ⟨E, v1, v2, rfl, hEl, hE, hn, hF⟩;have e0 : w2.cell? ⟨E, 0, none⟩ = some (.int .i64 (d : Int)) := by rw [blk_cell hE]; rfl
 have HE := hid hE; have HF := hid hF; have HN1 := hid hn; have HEL := hid hEl;clear hE hn hF hEl;go_wp2_with fail;go_quiet (fail);have HG3 := hid (show Fr NoB w2 (w2.drewN nq) from (Fr.refl NoB w2).drewN _);have HF3 := hid (show Fr NoB w (w2.drewN nq) from HF.out.trans HG3.out (fun _ _ h => h));have k4 : (w2.drewN nq).cell? ⟨E, 0, none⟩ = some (.int .i64 (d : Int)) := e0;generalize w2.drewN nq = w3 at *
 have HS : Hid (Calls Tryz.prog 103 #[.pointer (some ⟨D, o, none⟩)] w3 fun e w' => e = .returned (.int .i64 1) ∧ w3 = w') := hid (by
  obtain ⟨n, hn⟩ : ∃ n, (limbs V).length = n := ⟨_, rfl⟩
  have hn1 : 1 ≤ n := by have := limbs_len_pos HVZ.out; omega
  obtain ⟨Av, cv, hvs⟩ := HV.out.shape;rw [hn] at hvs;have hD3 : BlkAt w3 D ca ta := HF3.out.blk HD.out (fun h => h);have := bigSign_any D o false Av n cv false w3 (by rw [blk_cell hD3]; exact HA0.out) (by rw [blk_cell hD3]; rw [HA1.out, hvs]) (by rw [blk_cell hD3]; exact HA2.out);rw [show bigSign false n false = 1 by unfold bigSign; rw [if_neg (by simp), if_neg (by omega), if_neg (by simp)]] at this;exact this)
 have HC : Hid (Calls Tryz.prog 142 #[.pointer (some ⟨D, o, none⟩), .pointer (some ⟨E, 1, none⟩)] w3 fun e w' => e = .returned (.int .i64 (cmpZ V (10 ^ d))) ∧ Fr NoB w3 w') := hid (by
  have hD3 : BlkAt w3 D ca ta := HF3.out.blk HD.out (fun h => h);have hE3 := HG3.out.blk HE.out (fun h => h);have hDlt := blk_lt HD.out;have hEl := HEL.out;exact bigCmp D o E 1 V (10 ^ d) ca _ ta 219 v v1 w3 (by omega) hD3 hE3 HA0.out HA1.out HA2.out rfl rfl rfl (HV.out.fr HF3.out (fun _ _ h => h)) (HN1.out.fr HG3.out (fun _ _ h => h)))
 have hd1 : (d : Int) ≤ 100 := by have := HDZ.out; omega
 go_wp2_with (first | (go_at_call 103; refine HS.out.mono ?_; rintro e w4 ⟨rfl, rfl⟩));refine HC.out.mono ?_;rintro e w4 ⟨rfl, hF4⟩;have k5 : w4.cell? ⟨E, 0, none⟩ = some (.int .i64 (d : Int)) := hF4.cell' k4 (fun h => h);have HF4 := hid (HF3.out.trans hF4 (fun _ _ h => h));clear hF4;by_cases hlt2 : V < 10 ^ d;· have N := hid (show NdRes w V d (.returned (.int .i64 (d : Int))) w4 from ⟨by rw [ndOf, if_pos hlt2], HF4.out⟩);rw [cmpZ_lt hlt2];clear hlt2;go_wp2_with fail;go_ret;exact N.out
 · have N := hid (show NdRes w V d (.returned (.int .i64 ((d : Int) + 1))) w4 from ⟨by rw [ndOf, if_neg hlt2], HF4.out⟩);rcases cmpZ_ge hlt2 with h | h;all_goals
    rw [h];clear hlt2 h;go_wp2_with fail;go_ret;exact N.out
def ndBig (V d : Nat) : Int := if V < 10 ^ d then (d : Int) else (d : Int) + 1
def NdBig (w : World) (V d : Nat) (e : Ending) (w' : World) : Prop := e = .returned (.int .i64 (ndBig V d)) ∧ Fr NoB w w'
theorem cmpZ_below {V M : Nat} (h : V < M) : cmpZ V M = -1 := by unfold cmpZ; rw [if_pos h]
theorem cmpZ_above {V M : Nat} (h : ¬ V < M) : cmpZ V M = 0 ∨ cmpZ V M = 1 := by unfold cmpZ; rw [if_neg h]; split <;> simp
theorem back_step2 (x : Nat) (w : World) : (convert 220 2 (.float .f64 x)).run Tryz.prog w = (Conv.floatToInt .f64 x .i64).run Tryz.prog w := by kernel_rfl
set_option maxRecDepth 100000 in
set_option maxHeartbeats 2000000 in
theorem numDigits_big (D o : Nat) (ca : Array Value) (ta : TypeId) (v : Value) (V b n : Nat) (w : World) (hD : BlkAt w D ca ta) (a0 : ca[o]? = some (.bool false)) (a1 : ca[o + 1]? = some v) (a2 : ca[o + 2]? = some (.bool false)) (hv : NatAt w v (limbs V)) (hT : Thr w) (hb : blen V = b) (hb1 : 129 ≤ b) (hb2 : b < 300) (hbn : b * 30103 / 100000 = n) (hV : V ≠ 0) :
 Calls Tryz.prog 132 #[.pointer (some ⟨D, o, none⟩)] w (NdBig w V n) := by
 have h1 : w.cell? ⟨D, o + 1, none⟩ = some v := by rw [blk_cell hD]; exact a1
 have HB := bigBitLen D o v V w h1 hv;rw [hb] at HB;have HB := hid HB;obtain ⟨f, q, c1, c2, c3⟩ := places_facts b hb2;have hn1 : 1 ≤ n := by omega
 have hn2 : n ≤ 100 := by omega
 rw [hbn] at c3;have c3 : ∀ w, (convert 220 2 (.float .f64 q)).run Tryz.prog w = .ok (.int .i64 (n : Int)) w := fun w => by rw [back_step2, ← back_step]; exact c3 w
 have hZ := blk_new w (.cells #[.bool false, .slice none 0 0, .bool false] 70 (0, 0));have hF0 : Fr NoB w (w.alloc (.cells #[.bool false, .slice none 0 0, .bool false] 70)) := (Fr.refl _ _).alloc _;have h19 := hT.size;have HX := hid (tableExp10 w.heap.size 0 _ 70 false false n (w.alloc (.cells #[.bool false, .slice none 0 0, .bool false] 70)) hZ rfl rfl rfl (hT.fr hF0 (fun _ _ h => h)) hn1 hn2 (by omega));have b0 : ((b : Int) == 0) = false := beq_eq_false_iff_ne.2 (by omega);have b2 : ¬ (b : Int) ≤ 128 := by omega
 have b3 : (128 : Int) < b := by omega
 have hn3 : (n : Int) ≤ 100 := by omega
 have HD := hid hD; have HV := hid hv; have HA0 := hid a0; have HA1 := hid a1; have HA2 := hid a2;have HVZ := hid hV; have HF0 := hid hF0;clear h1 hv hT hb hD a0 a1 a2 hV hZ hF0 hbn hb1 hb2;go_enter Tryz.func132, Tryz.ntmps132;go_wp2_with fail;refine HB.out.mono ?_;rintro e w1 ⟨rfl, rfl⟩;go_wp2_with fail;refine HX.out.mono ?_;rintro e w3 ⟨rfl, vz, hE3, hvz, hgz, hFz⟩;have HF3 := hid (show Fr NoB w w3 from HF0.out.trans hFz (fun i hi h => by have h : i = w.heap.size := h; omega));have HE3 := hid hE3; have HVz := hid hvz;clear hE3 hvz hgz hFz;have HS : Hid (Calls Tryz.prog 103 #[.pointer (some ⟨D, o, none⟩)] w3 fun e w' => e = .returned (.int .i64 1) ∧ w3 = w') := hid (by
  obtain ⟨n, hn⟩ : ∃ n, (limbs V).length = n := ⟨_, rfl⟩
  have hn1 : 1 ≤ n := by have := limbs_len_pos HVZ.out; omega
  obtain ⟨Av, cv, hvs⟩ := HV.out.shape;rw [hn] at hvs;have hD3 : BlkAt w3 D ca ta := HF3.out.blk HD.out (fun h => h);have := bigSign_any D o false Av n cv false w3 (by rw [blk_cell hD3]; exact HA0.out) (by rw [blk_cell hD3]; rw [HA1.out, hvs]) (by rw [blk_cell hD3]; exact HA2.out);rw [show bigSign false n false = 1 by unfold bigSign; rw [if_neg (by simp), if_neg (by omega), if_neg (by simp)]] at this;exact this)
 have HC : Hid (Calls Tryz.prog 142 #[.pointer (some ⟨D, o, none⟩), .pointer (some ⟨w.heap.size, 0, none⟩)] w3 fun e w' => e = .returned (.int .i64 (cmpZ V (10 ^ n))) ∧ Fr NoB w3 w') := hid (by
  have hD3 : BlkAt w3 D ca ta := HF3.out.blk HD.out (fun h => h);have hDlt := blk_lt HD.out;exact bigCmp D o w.heap.size 0 V (10 ^ n) ca _ ta 70 v vz w3 (by omega) hD3 HE3.out HA0.out HA1.out HA2.out rfl rfl rfl (HV.out.fr HF3.out (fun _ _ h => h)) HVz.out)
 go_wp2_with (first | (go_at_call 103; refine HS.out.mono ?_; rintro e w4 ⟨rfl, rfl⟩));refine HC.out.mono ?_;rintro e w4 ⟨rfl, hF4⟩;have HF4 := hid (HF3.out.trans hF4 (fun _ _ h => h));clear hF4;by_cases hlt2 : V < 10 ^ n;· have N := hid (show NdBig w V n (.returned (.int .i64 (n : Int))) w4 from ⟨by rw [ndBig, if_pos hlt2], HF4.out⟩);rw [cmpZ_below hlt2];clear hlt2;go_wp2_with fail;go_ret;exact N.out
 · have N := hid (show NdBig w V n (.returned (.int .i64 ((n : Int) + 1))) w4 from ⟨by rw [ndBig, if_neg hlt2], HF4.out⟩);rcases cmpZ_above hlt2 with h | h;all_goals
    rw [h];clear hlt2 h;go_wp2_with fail;go_ret;exact N.out
theorem numDigits_nought (D o : Nat) (v : Value) (V : Nat) (w : World) (h1 : w.cell? ⟨D, o + 1, none⟩ = some v) (hv : NatAt w v (limbs V)) (hV : V = 0) :
 Calls Tryz.prog 132 #[.pointer (some ⟨D, o, none⟩)] w fun e w' => e = .returned (.int .i64 1) ∧ Fr NoB w w' := by
 have HB := bigBitLen D o v V w h1 hv;rw [show blen V = 0 by subst hV; rfl] at HB;have HB := hid HB;clear h1 hv hV;go_enter Tryz.func132, Tryz.ntmps132;go_wp2_with fail;refine HB.out.mono ?_;rintro e w1 ⟨rfl, rfl⟩;go_wp2_with fail;go_ret;exact ⟨rfl, Fr.refl _ _⟩
theorem Tryz.info36 : (Tryz.prog.info? 36).map (fun i => (i.zero, i.size, i.bytes)) = some (some (.int .u64 0), 1, 8) := by kernel_rfl
def MathRes (w : World) (xs : List Nat) (e : Ending) (w' : World) : Prop :=
 e = .returned (.pointer (some ⟨w.heap.size, 0, none⟩)) ∧ ∃ v', BlkAt w' w.heap.size #[.bool false, v'] 68 ∧ NatAt w' v' xs ∧ Fr NoB w w'
set_option maxRecDepth 100000 in
set_option maxHeartbeats 1000000 in
theorem mathBigInt (D o : Nat) (cs : Array Value) (t : TypeId) (v : Value) (xs : List Nat) (w : World) (hD : BlkAt w D cs t) (d0 : cs[o]? = some (.bool false)) (d1 : cs[o + 1]? = some v) (hv : NatAt w v xs) (hl : xs.length ≤ 900) :
 Calls Tryz.prog 49 #[.pointer (some ⟨D, o, none⟩)] w (MathRes w xs) := by
 have hb := blk_new w (.cells #[.bool false, .slice none 0 0] 68 (0, 0));have hF : Fr NoB w (w.alloc (.cells #[.bool false, .slice none 0 0] 68)) := (Fr.refl _ _).alloc _;have hDl := blk_lt hD;have HS := hid (intSet w.heap.size 0 D o #[.bool false, .slice none 0 0] cs 68 t false false (.slice none 0 0) v [] xs _ hb rfl rfl (hF.blk hD (fun h => h)) d0 d1 (NatAt.nil _) (hv.fr hF (fun _ _ h => h)) hl (fun e => by omega) (fun g h => by cases h));have fin : ∀ w1, SetRes (w.alloc (.cells #[.bool false, .slice none 0 0] 68)) w.heap.size 0 #[.bool false, .slice none 0 0] 68 (.slice none 0 0) false xs w1 → MathRes w xs (.returned (.pointer (some ⟨w.heap.size, 0, none⟩))) w1 := by
  rintro w1 ⟨v', r1, r2, r3, r4⟩;exact ⟨rfl, v', r1, r2, hF.trans r4 (fun i hi h => by
   rcases h with h | h;· omega
   · cases h)⟩
 have FIN := hid fin;clear hb hF hD d0 d1 hv fin;go_enter Tryz.func49, Tryz.ntmps49;go_wp2_with fail;refine HS.out.mono ?_;rintro e w1 ⟨rfl, r⟩;have N := hid (FIN.out w1 r);clear r;go_wp2_with fail;go_ret;exact N.out
def WordsRes (w : World) (xs : List Nat) (e : Ending) (w' : World) : Prop :=
 ∃ v', e = .returned v' ∧ w'.ownsRow w.heap.size 36 1 v' xs.length (u64s xs) ∧ Fr NoB w w'
set_option maxRecDepth 100000 in
set_option maxHeartbeats 2000000 in
theorem implWords (D o : Nat) (cs : Array Value) (t : TypeId) (v : Value) (xs : List Nat) (w : World) (hD : BlkAt w D cs t) (d0 : cs[o]? = some (.bool false)) (d1 : cs[o + 1]? = some v) (hv : NatAt w v xs) (hl : xs.length ≤ 900) (hb : ∀ x ∈ xs, x < WB) :
 Calls Tryz.prog 38 #[.pointer (some ⟨D, o, none⟩)] w (WordsRes w xs) := by
 obtain ⟨i0, hi, hz0, hz1, hz2⟩ := info_parts Tryz.info36;have HM := hid (mathBigInt D o cs t v xs w hD d0 d1 hv hl);have HI := hid hi;clear hD d0 d1 hv hb;go_enter Tryz.func38, Tryz.ntmps38;go_wp2_with fail;refine HM.out.mono ?_;rintro e w1 ⟨rfl, v1, r1, r2, hF⟩;have c1 : w1.cell? ⟨w.heap.size, 1, none⟩ = some v1 := by rw [blk_cell r1]; rfl
 have HN := hid r2; have HF := hid hF;obtain ⟨A, c, rfl⟩ := r2.shape;have hEl := blk_lt r1;clear r1 r2 hF;go_wp2_with (first | (go_at_call 50; go_in));have h0 : w1.ownsRow w1.heap.size 36 1 (.slice none 0 0) 0 (u64s (xs.take 0)) := ⟨by simp [u64s], .inl ⟨rfl, rfl⟩⟩
 have H0 := hid h0;clear h0;go_loopw [3, 10] (fun o i wr => ∃ (k : Nat) (ov : Value), ov = o ∧ k ≤ xs.length ∧ i = .int .i64 k ∧ Hid (wr.ownsRow w1.heap.size 36 1 ov k (u64s (xs.take k))) ∧ Hid (Below w1.heap.size w1 wr)) (fun _ i _ => xs.length - (intOf i).toNat);case atStart => exact ⟨0, _, rfl, Nat.zero_le _, rfl, H0, hid (Below.refl _ _)⟩
 case round =>
  obtain ⟨k, ov, rfl, hk, rfl, hO, hB⟩ := hrel;by_cases hlt : k < xs.length
  · obtain ⟨x, hxk⟩ : ∃ x, xs[k]? = some x := ⟨xs[k], List.getElem?_eq_getElem hlt⟩
    obtain ⟨g, cap, hge, hc, hcap, hgl, hcm, _⟩ := HN.out.cell (fun h => by rw [h] at hlt; simp at hlt);cases hge;have hFr : Fr NoB w1 wr := Fr.of_below hB.out _;have hcell : wr.cell? ⟨g, k, none⟩ = some (.int .u64 (x : Int)) := hFr.cell' (hc k x hxk) (fun h => h);have htk : u64s (xs.take (k + 1)) = u64s (xs.take k) ++ [.int .u64 (x : Int)] := by
     rw [List.take_add_one, hxk, u64s_append]; rfl
    have HTK := hid htk;have hbs : w1.heap.size ≤ wr.heap.size := hB.out.size;clear hxk hc htk hFr;go_wp2_with (at_builtin; refine wpList_append_own _ rfl (.tmp 14) (.tmp 16) 28 rfl w1.heap.size 36 i0 (.int .u64 0) 1 8 Tryz.underlying28 HI.out hz0 hz1 hz2 rfl (by decide) ov k (u64s (xs.take k)) rfl (hO.out.alloc _) ⟨wr.heap.size, 0, none⟩ 1 1 [.int .u64 (x : Int)] rfl rfl (cell_one_new _ _ _) (by simp [Value.oneCell']) (by unfold maxLen; omega) (by omega) (by simp; omega) ?_; intro v' w5 hown hgr _; refine Hid.out ?_);refine hid ?_;rw [← HTK.out] at hown;have HB5 : Hid (Below w1.heap.size w1 w5) := hid ((hB.out.alloc hbs _).grown hgr (by simp; omega) (by
     obtain ⟨_, h | ⟨g', cap', cur', h, h2, _⟩⟩ := hO.out;· rw [h.1]; intro b hb; cases hb
     · rw [h]; intro b hb; cases hb; exact h2))
    have HO5 := hid hown;clear hown hgr;go_wp2_with fail;go_roundw;case rel => first | exact ⟨k + 1, _, rfl, by omega, by go_num, HO5, HB5⟩ | ((repeat apply Exists.intro); exact ⟨⟨k + 1, _, rfl, by omega, by go_num, HO5, HB5⟩, rfl⟩)
    case measure => simp [intOf]; omega
  · obtain rfl : k = xs.length := by omega
    have hO2 := hO.out;rw [List.take_length] at hO2;have hF2 : Fr NoB w wr := HF.out.trans (Fr.of_below hB.out NoB) (fun _ _ h => h);have hO3 : wr.ownsRow w.heap.size 36 1 ov xs.length (u64s xs) := by
     obtain ⟨h1, h | ⟨g', cap', cur', h, h2, h3⟩⟩ := hO2;· exact ⟨h1, .inl h⟩
     · exact ⟨h1, .inr ⟨g', cap', cur', h, by omega, h3⟩⟩
    have N := hid (show WordsRes w xs (.returned ov) wr from ⟨ov, rfl, hO3, hF2⟩);clear hO2 hF2 hO3;go_wp2_with fail;go_ret;exact N.out
end Go.Proofs.YteokhhepnoelhaaGreatDoor
