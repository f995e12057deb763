/-
  Rounder.Round at every coefficient; Context.round.
-/
import Derived.Test.YteokhhepnoelhaaGreatDoorXbp
import Derived.Test.YteokhhepnoelhaaGreatDoorXbq
import Derived.Test.YteokhhepnoelhaaGreatDoorXaw
import Derived.Test.YteokhhepnoelhaaGreatDoorXax
import Derived.Test.YteokhhepnoelhaaGreatDoorXbj
import Derived.Test.YteokhhepnoelhaaGreatDoorXav
set_option linter.unusedVariables false
set_option linter.unusedSimpArgs false
namespace Go.Proofs.YteokhhepnoelhaaGreatDoor
open Go.RowKit
def rndFl (V p : Nat) : Int := if Lib.nDigits V ≤ p then 0 else if V % 10 ^ (Lib.nDigits V - p) = 0 then 64 else 80
theorem rndFl_cases (V p : Nat) : rndFl V p = 0 ∨ rndFl V p = 64 ∨ rndFl V p = 80 := by
 unfold rndFl;split
 · exact .inl rfl
 · split
   · exact .inr (.inl rfl)
   · exact .inr (.inr rfl)
theorem round_any (D cb mode : Nat) (hm : mode < 8) (neg : Bool) (e0 : Int) (v : Value) (V p : Nat) (traps : Int) (w : World) (hD : DecAt w D 0 neg e0 false v false) (hv : NatAt w v (limbs V)) (hvD : ∀ g, natBlk v = some g → g ≠ D) (hD19 : 19 ≤ D) (hv19 : ∀ g, natBlk v = some g → 19 ≤ g)
 (hC : CtxAt w cb (p : Int) 100000 (-100000) traps (modeStr mode)) (hcD : cb ≠ D) (hcv : ∀ g, natBlk v = some g → cb ≠ g) (helo : -90000 ≤ e0) (hehi : e0 ≤ 90000) (hp : 1 ≤ p) (hp' : p ≤ 60) (hb : blen V ≤ 200) (hT : Thr w) (h60 : Lib.nDigits V ≤ 60) :
 Calls Tryz.prog 61 #[.string (modeStr mode), .pointer (some ⟨cb, 0, none⟩), .pointer (some ⟨D, 0, none⟩), .pointer (some ⟨D, 0, none⟩), .bool true] w (RndRes w D neg v V e0 (rndFl V p) (rndV mode neg V p) (e0 + ((rndE mode neg V p : Nat) : Int))) := by
 by_cases h : Lib.nDigits V ≤ p
 · have e1 : rndFl V p = 0 := by unfold rndFl; rw [if_pos h]
   have e2 : rndV mode neg V p = V := by unfold rndV; rw [if_pos h]
   have e3 : rndE mode neg V p = 0 := by unfold rndE; rw [if_pos h]
   rw [e1, e2, e3, show e0 + ((0 : Nat) : Int) = e0 by omega];exact round_few D cb mode neg e0 v V p traps w hD hv hvD hC helo hehi hp hp' hb hT h
 · obtain ⟨k, hk⟩ : ∃ k, Lib.nDigits V = p + k := ⟨Lib.nDigits V - p, by omega⟩
   have hkk : Lib.nDigits V - p = k := by omega
   have hqd := nDigits_div (V := V) hp hk;have E : ∀ c, cutV mode neg V k = c → (Lib.nDigits c = p → rndV mode neg V p = c ∧ rndE mode neg V p = k) ∧ (Lib.nDigits c = p + 1 → rndV mode neg V p = c / 10 ∧ rndE mode neg V p = k + 1) := by
    intro c hc;unfold rndV rndE;rw [if_neg h, if_neg h, hkk, hc];constructor;· intro h1;rw [h1, if_neg (by omega), if_neg (by omega)];exact ⟨rfl, rfl⟩
    · intro h1;rw [h1, if_pos (by omega), if_pos (by omega)];exact ⟨rfl, rfl⟩
   by_cases hr : V % 10 ^ k = 0
   · have hc : cutV mode neg V k = V / 10 ^ k := by unfold cutV; rw [if_pos hr]
     obtain ⟨e2, e3⟩ := (E _ hc).1 hqd;have e1 : rndFl V p = 64 := by unfold rndFl; rw [if_neg h, hkk, if_pos hr]
     rw [e1, e2, e3];exact round_exact D cb mode hm neg e0 v V p k traps w hD hv hvD hD19 hv19 hC hcD hcv helo hehi hp hp' hb hT hk (by omega) (by omega) hr
   · have e1 : rndFl V p = 80 := by unfold rndFl; rw [if_neg h, hkk, if_neg hr]
     cases hadd : addB mode neg (V / 10 ^ k) (cmpZ (V % 10 ^ k + V % 10 ^ k) (10 ^ k)) with
     | false =>
      have hc : cutV mode neg V k = V / 10 ^ k := by unfold cutV; rw [if_neg hr, hadd]; rfl
      obtain ⟨e2, e3⟩ := (E _ hc).1 hqd;rw [e1, e2, e3];exact round_down D cb mode hm neg e0 v V p k traps w hD hv hvD hD19 hv19 hC hcD hcv helo hehi hp hp' hb hT hk (by omega) (by omega) hr hadd
     | true =>
      have hc : cutV mode neg V k = V / 10 ^ k + 1 := by unfold cutV; rw [if_neg hr, hadd]; rfl
      have hmo := nDigits_mono (show V / 10 ^ k ≤ V / 10 ^ k + 1 from Nat.le_succ _);have hsu := nDigits_succ_le (V / 10 ^ k);by_cases hd : Lib.nDigits (V / 10 ^ k) < Lib.nDigits (V / 10 ^ k + 1);· obtain ⟨e2, e3⟩ := (E _ hc).2 (by omega);rw [e1, e2, e3];exact round_upY D cb mode _ _ hm neg e0 v V p k traps w hD hv hvD hD19 hv19 hC hcD hcv helo hehi hp hp' hb hT hk (by omega) (by omega) hr hadd (if_pos hd) (by rw [if_pos hd]; omega)
      · obtain ⟨e2, e3⟩ := (E _ hc).1 (by omega);rw [e1, e2, e3];exact round_upY D cb mode _ _ hm neg e0 v V p k traps w hD hv hvD hD19 hv19 hC hcD hcv helo hehi hp hp' hb hT hk (by omega) (by omega) hr hadd (if_neg hd) (if_neg hd)
theorem ctxRound (D cb mode : Nat) (hm : mode < 8) (neg : Bool) (e0 : Int) (v : Value) (V p : Nat) (traps : Int) (w : World) (hD : DecAt w D 0 neg e0 false v false) (hv : NatAt w v (limbs V)) (hvD : ∀ g, natBlk v = some g → g ≠ D) (hD19 : 19 ≤ D) (hv19 : ∀ g, natBlk v = some g → 19 ≤ g)
 (hC : CtxAt w cb (p : Int) 100000 (-100000) traps (modeStr mode)) (hcD : cb ≠ D) (hcv : ∀ g, natBlk v = some g → cb ≠ g) (helo : -90000 ≤ e0) (hehi : e0 ≤ 90000) (hp : 1 ≤ p) (hp' : p ≤ 60) (hb : blen V ≤ 200) (hT : Thr w) (h60 : Lib.nDigits V ≤ 60) :
 Calls Tryz.prog 42 #[.pointer (some ⟨cb, 0, none⟩), .pointer (some ⟨D, 0, none⟩), .pointer (some ⟨D, 0, none⟩)] w (RndRes w D neg v V e0 (rndFl V p) (rndV mode neg V p) (e0 + ((rndE mode neg V p : Nat) : Int))) := by
 have H := hid (round_any D cb mode hm neg e0 v V p traps w hD hv hvD hD19 hv19 hC hcD hcv helo hehi hp hp' hb hT h60);have c4 := hC.c4;clear hD hv hvD hv19 hC hcv hb hT h60;generalize rndFl V p = fl at *
 generalize rndV mode neg V p = V' at *
 generalize e0 + ((rndE mode neg V p : Nat) : Int) = e1 at *
 generalize modeStr mode = ms at *
 go_enter Tryz.func42, Tryz.ntmps42;go_wp2_with fail;refine H.out.mono ?_;rintro e w1 ⟨rfl, r⟩;have N := hid (show RndRes w D neg v V e0 fl V' e1 (.returned (.int .u32 fl)) w1 from ⟨rfl, r⟩);clear r;go_wp2_with fail;go_ret;exact N.out
end Go.Proofs.YteokhhepnoelhaaGreatDoor
namespace Go.Proofs.YteokhhepnoelhaaGreatDoor
open Go.RowKit Go.Proofs.YteokhhepnoelhaaGreatDoorW.PrintWords
theorem flags_cond (V p : Nat) : ((if (!decide (Lib.nDigits V ≤ p)) = true then 16 else 0) + (if (!decide (Lib.nDigits V ≤ p) && !decide (V % 10 ^ (Lib.nDigits V - p) = 0)) = true then 4 else 0) : Int) = condOf (rndFl V p) := by
 unfold rndFl condOf;by_cases h : Lib.nDigits V ≤ p;· simp [h]
 · by_cases h2 : V % 10 ^ (Lib.nDigits V - p) = 0
   · simp [h, h2]
   · simp [h, h2]
theorem blen_rndV (mode : Nat) (neg : Bool) {V : Nat} (p : Nat) (h : blen V ≤ 200) : blen (rndV mode neg V p) ≤ 201 := by
 refine blen_under ?_;have h1 := rndV_le mode neg V p;have h2 := lt_two_blen V;have h3 : 2 ^ blen V ≤ 2 ^ 200 := Nat.pow_le_pow_right (by omega) h;rw [show (2 : Nat) ^ 201 = 2 * 2 ^ 200 from by rw [Nat.pow_succ, Nat.mul_comm]];have h4 : 1 ≤ 2 ^ 200 := Nat.pow_pos (by omega);generalize (2 : Nat) ^ 200 = t at *
 generalize 2 ^ blen V = u at *
 omega
theorem digs_201 {V : Nat} (h : blen V ≤ 201) : (digs V).length ≤ 10000 := by
 have h1 : (limbs V).length ≤ 4 := limbs_len_blen V 4 (by omega);have h2 := digs_len_ws (limbs V) (limbs_lt V);rw [nval_limbs] at h2;omega
set_option maxRecDepth 100000 in
set_option maxHeartbeats 4000000 in
theorem roundsC (neg : Bool) (V p mode : Nat) (x : Int) (hm : mode < 8) (hp1 : 1 ≤ p) (hp : p ≤ 60) (hV : blen V ≤ 200) (hnd : Lib.nDigits V ≤ 60) (hx : -900000 ≤ x) (hx' : x ≤ 900000) (A B : Option Addr) (n c m d : Nat) (w : World) (h1 : CN w A n c (digs V)) (h2 : CW w B m d (limbs (rndV mode neg V p))) :
 Calls Tryz.prog 14 #[.agg #[.int .i64 0, .bool neg, .slice B m d, .int .i64 (x + ((rndE mode neg V p : Nat) : Int))], .int .i64 (condOf (rndFl V p)), .bool true, .agg #[.bool neg, .slice A n c, .int .i64 x],
  .agg #[.int .u64 (p : Int), .int .i64 100000, .int .i64 (-100000), .int .i64 (mode : Int)]] w fun e w' => e = .returned (.bool true) ∧ Fr NoB w w' := by
 have hb := blen_rndV mode neg p hV;have HR := hid (fun W A n c h1 => roundedC neg V p mode x hm hp1 hp hV hnd hx hx' A n c W h1);have HI := hid (fun W A B n c m d h1 h2 => isDecX neg (rndV mode neg V p) (x + ((rndE mode neg V p : Nat) : Int)) (Nat.le_trans (limbs_len_blen _ 4 (by omega)) (by omega)) (digs_201 hb) A B n c m d W h1 h2);have hfl := fun W => flagsC (!decide (Lib.nDigits V ≤ p)) (!decide (Lib.nDigits V ≤ p) && !decide (V % 10 ^ (Lib.nDigits V - p) = 0)) W
 rw [flags_cond] at hfl;have HFL := hid hfl;clear hfl;generalize rndV mode neg V p = X at *
 generalize x + ((rndE mode neg V p : Nat) : Int) = y at *
 generalize condOf (rndFl V p) = co at *
 generalize (!decide (Lib.nDigits V ≤ p) && !decide (V % 10 ^ (Lib.nDigits V - p) = 0)) = ix at *
 generalize (!decide (Lib.nDigits V ≤ p)) = rd at *
 have HA := hid h1; have HW := hid h2;have hF0 : Fr NoB w (((w.alloc (.cells #[.int .i64 0, .bool neg, .slice B m d, .int .i64 y] 30)).alloc (.cells #[.bool neg, .slice A n c, .int .i64 x] 25)).alloc (.cells #[.int .u64 (p : Int), .int .i64 100000, .int .i64 (-100000), .int .i64 (mode : Int)] 38)) := (((Fr.refl _ _).alloc _).alloc _).alloc _;have hZ0 : BlkAt (((w.alloc (.cells #[.int .i64 0, .bool neg, .slice B m d, .int .i64 y] 30)).alloc (.cells #[.bool neg, .slice A n c, .int .i64 x] 25)).alloc (.cells #[.int .u64 (p : Int), .int .i64 100000, .int .i64 (-100000), .int .i64 (mode : Int)] 38)) w.heap.size #[.int .i64 0, .bool neg, .slice B m d, .int .i64 y] 30 := blk_alloc (blk_alloc (blk_new w _) _) _;have hV0 : BlkAt (((w.alloc (.cells #[.int .i64 0, .bool neg, .slice B m d, .int .i64 y] 30)).alloc (.cells #[.bool neg, .slice A n c, .int .i64 x] 25)).alloc (.cells #[.int .u64 (p : Int), .int .i64 100000, .int .i64 (-100000), .int .i64 (mode : Int)] 38)) (w.heap.size + 1) #[.bool neg, .slice A n c, .int .i64 x] 25 := by
  have := blk_new (w.alloc (.cells #[.int .i64 0, .bool neg, .slice B m d, .int .i64 y] 30)) (.cells #[.bool neg, .slice A n c, .int .i64 x] 25 (0, 0));rw [World.size_alloc] at this;exact blk_alloc this _
 have hC0 : BlkAt (((w.alloc (.cells #[.int .i64 0, .bool neg, .slice B m d, .int .i64 y] 30)).alloc (.cells #[.bool neg, .slice A n c, .int .i64 x] 25)).alloc (.cells #[.int .u64 (p : Int), .int .i64 100000, .int .i64 (-100000), .int .i64 (mode : Int)] 38)) (w.heap.size + 2) #[.int .u64 (p : Int), .int .i64 100000, .int .i64 (-100000), .int .i64 (mode : Int)] 38 := by
  have := blk_new ((w.alloc (.cells #[.int .i64 0, .bool neg, .slice B m d, .int .i64 y] 30)).alloc (.cells #[.bool neg, .slice A n c, .int .i64 x] 25)) (.cells #[.int .u64 (p : Int), .int .i64 100000, .int .i64 (-100000), .int .i64 (mode : Int)] 38 (0, 0));rw [World.size_alloc, World.size_alloc] at this;exact this
 have HF0 := hid hF0; have HZ0 := hid hZ0; have HV0 := hid hV0; have HC0 := hid hC0;clear hF0 hZ0 hV0 hC0 h1 h2 hb hV hnd;go_enter Tryz.func14, Tryz.ntmps14;go_wp2_with fail;generalize (((w.alloc (.cells #[.int .i64 0, .bool neg, .slice B m d, .int .i64 y] 30)).alloc (.cells #[.bool neg, .slice A n c, .int .i64 x] 25)).alloc (.cells #[.int .u64 (p : Int), .int .i64 100000, .int .i64 (-100000), .int .i64 (mode : Int)] 38)) = W at *
 refine (HR.out W _ _ _ (HA.out.fr HF0.out)).mono ?_;rintro e w1 ⟨A1, n1, c1, rfl, hC1, hF1⟩;have C1 := hid hC1; have F1 := hid hF1;have HNB : Hid (BlkAt (w1.alloc (.cells #[.bool neg, .slice A1 n1 c1, .int .i64 y] 25)) w1.heap.size #[.bool neg, .slice A1 n1 c1, .int .i64 y] 25) := hid (blk_new _ _);have HNF : Hid (Fr NoB w1 (w1.alloc (.cells #[.bool neg, .slice A1 n1 c1, .int .i64 y] 25))) := hid ((Fr.refl _ _).alloc _);have HY := hid (fr_tr F1.out HNF.out);have hz := HY.out.blk HZ0.out (fun h => h);have z0 := blk_cell hz 0; have z1 := blk_cell hz 1; have z2 := blk_cell hz 2; have z3 := blk_cell hz 3;have v0 := blk_cell HNB.out 0; have v1 := blk_cell HNB.out 1; have v2 := blk_cell HNB.out 2;simp only [List.getElem?_toArray, List.getElem?_cons_zero, List.getElem?_cons_succ] at z0 z1 z2 z3 v0 v1 v2;clear hC1 hF1 hz;have HII := hid (HI.out _ _ _ _ _ _ _ ((HW.out.fr HF0.out).fr HY.out) (C1.out.fr HNF.out));have HE := hid (fr_tr HF0.out HY.out);go_wp2_with fail;refine HII.out.mono ?_;rintro e w2 ⟨rfl, hF2⟩;have F2 := hid (fr_tr HE.out hF2);clear hF2 z0 z1 z2 z3 v0 v1 v2;go_wp2_with fail;refine (HFL.out w2).mono ?_;rintro e w3 ⟨rfl, hF3⟩;have F3 := hid (fr_tr F2.out hF3);clear hF3;go_wp2_with fail;go_ret;exact ⟨by simp, F3.out⟩
end Go.Proofs.YteokhhepnoelhaaGreatDoor
namespace Go.Proofs.YteokhhepnoelhaaGreatDoor
open Go.RowKit
def CtxRes (w : World) (D : Nat) (neg : Bool) (fl : Int) (V' : Nat) (e1 : Int) (e : Ending) (w' : World) : Prop :=
 e = .returned (.tuple #[.pointer (some ⟨D, 0, none⟩), .int .u32 fl, .nilIface]) ∧ ∃ v, NatAt w' v (limbs V') ∧ DecAt w' D 0 neg e1 false v false ∧ Fr (fun i => i = D) w w'
set_option maxRecDepth 100000 in
set_option maxHeartbeats 2000000 in
theorem ctxSetString_rnd (D cb mode : Nat) (hm : mode < 8) (l : List UInt8) (neg : Bool) (ds : List UInt8) (es : List Int) (p : Nat) (w : World) (hC : CtxAt w cb (p : Int) 100000 (-100000) 0 (modeStr mode)) (hne : cb ≠ D) (hT : Thr w) (hD19 : 19 ≤ D) (hDl : D < w.heap.size)
 (hp : 1 ≤ p) (hp' : p ≤ 60) (hb : blen (decVal ds) ≤ 200) (h60 : Lib.nDigits (decVal ds) ≤ 60) (helo : -80000 ≤ es.sum) (hehi : es.sum ≤ 80000)
 (hS : Calls Tryz.prog 41 #[.pointer (some ⟨D, 0, none⟩), .pointer (some ⟨cb, 0, none⟩), .string ⟨l.toArray⟩] w (GoodEnd w D neg ds es)) :
 Calls Tryz.prog 30 #[.pointer (some ⟨cb, 0, none⟩), .pointer (some ⟨D, 0, none⟩), .string ⟨l.toArray⟩] w (CtxRes w D neg (rndFl (decVal ds) p) (rndV mode neg (decVal ds) p) (es.sum + ((rndE mode neg (decVal ds) p : Nat) : Int))) := by
 have HC := hid hC; have HS := hid hS; have HT := hid hT;have h19 := hT.size;have hclt : cb < w.heap.size := World.block_lt_of_cell? w ⟨cb, 0, none⟩ hC.c0;have hfl := rndFl_cases (decVal ds) p;have HRN := hid (fun (w1 : World) (v : Value) (hD1 : DecAt w1 D 0 neg es.sum false v false) (hv : NatAt w1 v (limbs (decVal ds))) (hg : ∀ g, natBlk v = some g → w.heap.size ≤ g) (hF1 : Fr (fun i => i = D) w w1) =>
  ctxRound D cb mode hm neg es.sum v (decVal ds) p 0 w1 hD1 hv (fun g h => by have := hg g h; omega) hD19 (fun g h => by have := hg g h; omega) (hC.fr hF1 hne) hne (fun g h => by have := hg g h; omega) (by omega) (by omega) hp hp' hb (hT.fr hF1 (fun i hi h => by have h : i = D := h; omega)) h60)
 clear hC hS hT;generalize rndFl (decVal ds) p = fl at *
 generalize rndV mode neg (decVal ds) p = V' at *
 generalize es.sum + ((rndE mode neg (decVal ds) p : Nat) : Int) = e1 at *
 rcases hfl with rfl | rfl | rfl;all_goals
  go_enter Tryz.func30, Tryz.ntmps30;go_wp2_with fail;refine HS.out.mono ?_;rintro e w1 ⟨rfl, v, hv, hD1, hF1, hg⟩;have HR := hid (HRN.out w1 v hD1 hv hg hF1); have HG := hid hg; have HF1 := hid hF1;clear hv hg hF1 hD1;go_wp2_with fail;refine HR.out.mono ?_;rintro e w2 ⟨rfl, v', a1, a2, a3, a4⟩;have hF2 : Fr (fun i => i = D) w w2 := HF1.out.trans a4 (fun i hi h => by
   rcases h with h | h;· exact h
   · have := HG.out i h; omega)
  have N := hid (show ∃ v, NatAt w2 v (limbs V') ∧ DecAt w2 D 0 neg e1 false v false ∧ Fr (fun i => i = D) w w2 from ⟨v', a2, a1, hF2⟩);have c3 := (HC.out.fr hF2 hne).c3;clear a1 a2 a3 a4 hF2;go_wp2_with (first | (go_at_call 43; refine (goError_fl cb _ (by first | exact .inl rfl | exact .inr (.inl rfl) | exact .inr (.inr rfl)) w2 c3).mono ?_; rintro e w3 ⟨rfl, rfl⟩));go_ret3;exact ⟨rfl, N.out⟩
def SetStrRes (w : World) (neg : Bool) (fl : Int) (V : Nat) (e0 : Int) (e : Ending) (w' : World) : Prop :=
 ∃ A n c, e = .returned (.tuple #[.agg #[.int .i64 0, .bool neg, .slice A n c, .int .i64 e0], .int .i64 (condOf fl), .bool true]) ∧ w'.ownsRow w.heap.size 36 1 (.slice A n c) (limbs V).length (u64s (limbs V)) ∧ Fr NoB w w'
set_option maxRecDepth 100000 in
set_option maxHeartbeats 4000000 in
theorem ctxSetStr (l : List UInt8) (p mode : Nat) (hm : mode < 8) (hp' : p ≤ 60) (neg : Bool) (fl : Int) (hfl : fl = 0 ∨ fl = 64 ∨ fl = 80) (V : Nat) (e0 : Int) (w : World) (hlen : (limbs V).length ≤ 900) (he0 : -1000000 ≤ e0) (he1 : e0 ≤ 1000000)
 (hS : ∀ (D cb : Nat) (w1 : World), DecAt w1 D 0 false 0 false (.slice none 0 0) false → Fr NoB w w1 → w.heap.size ≤ D → w.heap.size ≤ cb → cb ≠ D → CtxAt w1 cb (p : Int) 100000 (-100000) 0 (modeStr mode) →
  Calls Tryz.prog 30 #[.pointer (some ⟨cb, 0, none⟩), .pointer (some ⟨D, 0, none⟩), .string ⟨l.toArray⟩] w1 (CtxRes w1 D neg fl V e0)) :
 Calls Tryz.prog 13 #[.agg #[.int .u64 (p : Int), .int .i64 100000, .int .i64 (-100000), .int .i64 (mode : Int)], .string ⟨l.toArray⟩] w (SetStrRes w neg fl V e0) := by
 have HS := hid hS;have HCX := hid (fun w => context_any p mode hp' hm w);clear hS;have hB : BlkAt (w.alloc (.cells #[.int .u64 (p : Int), .int .i64 100000, .int .i64 (-100000), .int .i64 (mode : Int)] 38)) w.heap.size #[.int .u64 (p : Int), .int .i64 100000, .int .i64 (-100000), .int .i64 (mode : Int)] 38 := blk_new w _;have hsz : (w.alloc (.cells #[.int .u64 (p : Int), .int .i64 100000, .int .i64 (-100000), .int .i64 (mode : Int)] 38)).heap.size = w.heap.size + 1 := by simp
 have HB := hid hB; have HSZ := hid hsz;have HF := hid (show Fr NoB w (w.alloc (.cells #[.int .u64 (p : Int), .int .i64 100000, .int .i64 (-100000), .int .i64 (mode : Int)] 38)) from (Fr.refl _ _).alloc _);clear hB hsz;go_enter Tryz.func13, Tryz.ntmps13;go_wp2_with fail;have hF0 : Fr NoB w (((w.alloc (.cells #[.int .u64 (p : Int), .int .i64 100000, .int .i64 (-100000), .int .i64 (mode : Int)] 38)).alloc (.cells #[.int .i64 0, .bool false, .slice none 0 0, .int .i64 0] 30)).alloc (.cells #[.int .i8 0, .bool false, .int .i32 0, .bool false, .slice none 0 0, .bool false] 72)) := (((Fr.refl _ _).alloc _).alloc _).alloc _;have hR0 : BlkAt (((w.alloc (.cells #[.int .u64 (p : Int), .int .i64 100000, .int .i64 (-100000), .int .i64 (mode : Int)] 38)).alloc (.cells #[.int .i64 0, .bool false, .slice none 0 0, .int .i64 0] 30)).alloc (.cells #[.int .i8 0, .bool false, .int .i32 0, .bool false, .slice none 0 0, .bool false] 72)) (w.heap.size + 1) #[.int .i64 0, .bool false, .slice none 0 0, .int .i64 0] 30 := by
  have := blk_new (w.alloc (.cells #[.int .u64 (p : Int), .int .i64 100000, .int .i64 (-100000), .int .i64 (mode : Int)] 38)) (.cells #[.int .i64 0, .bool false, .slice none 0 0, .int .i64 0] 30 (0, 0));rw [World.size_alloc] at this;exact blk_alloc this _
 have hD0 : DecAt (((w.alloc (.cells #[.int .u64 (p : Int), .int .i64 100000, .int .i64 (-100000), .int .i64 (mode : Int)] 38)).alloc (.cells #[.int .i64 0, .bool false, .slice none 0 0, .int .i64 0] 30)).alloc (.cells #[.int .i8 0, .bool false, .int .i32 0, .bool false, .slice none 0 0, .bool false] 72)) (w.heap.size + 2) 0 false 0 false (.slice none 0 0) false := by
  have := blk_new ((w.alloc (.cells #[.int .u64 (p : Int), .int .i64 100000, .int .i64 (-100000), .int .i64 (mode : Int)] 38)).alloc (.cells #[.int .i64 0, .bool false, .slice none 0 0, .int .i64 0] 30)) (.cells #[.int .i8 0, .bool false, .int .i32 0, .bool false, .slice none 0 0, .bool false] 72 (0, 0));rw [World.size_alloc, World.size_alloc] at this;exact this
 have hsz0 : (((w.alloc (.cells #[.int .u64 (p : Int), .int .i64 100000, .int .i64 (-100000), .int .i64 (mode : Int)] 38)).alloc (.cells #[.int .i64 0, .bool false, .slice none 0 0, .int .i64 0] 30)).alloc (.cells #[.int .i8 0, .bool false, .int .i32 0, .bool false, .slice none 0 0, .bool false] 72)).heap.size = w.heap.size + 3 := by simp
 have HF0 := hid hF0; have HR0 := hid hR0; have HD0 := hid hD0; have HSZ0 := hid hsz0;clear hF0 hR0 hD0 hsz0 HF HB HSZ;generalize (((w.alloc (.cells #[.int .u64 (p : Int), .int .i64 100000, .int .i64 (-100000), .int .i64 (mode : Int)] 38)).alloc (.cells #[.int .i64 0, .bool false, .slice none 0 0, .int .i64 0] 30)).alloc (.cells #[.int .i8 0, .bool false, .int .i32 0, .bool false, .slice none 0 0, .bool false] 72)) = W at *
 refine (HCX.out W).mono ?_;rintro e w1 ⟨cb, rfl, h1, h2, h3⟩;have HF1 := hid (HF0.out.trans h3 (fun _ _ h => h));have hs0 := HSZ0.out;have HR1 := hid (h3.blk HR0.out (fun h => h));have HC := hid (show CtxAt w1 cb (p : Int) 100000 (-100000) 0 (modeStr mode) from ⟨by rw [blk_cell h2]; rfl, by rw [blk_cell h2]; rfl, by rw [blk_cell h2]; rfl, by rw [blk_cell h2]; rfl, by rw [blk_cell h2]; rfl⟩);have HSS := hid (HS.out (w.heap.size + 2) cb w1 (HD0.out.fr h3 (fun h => h)) HF1.out (by omega) (by omega) (by omega) HC.out);clear h2 h3;go_wp2_with fail;refine HSS.out.mono ?_;rintro e w2 ⟨rfl, v, k1, k2, k3⟩;have HF2 := hid (HF1.out.trans k3 (fun i hi h => by have h : i = w.heap.size + 2 := h; omega));have HR2 := hid (k3.blk HR1.out (by show ¬ w.heap.size + 1 = w.heap.size + 2; omega));have HTO := hid (told_num (w.heap.size + 2) neg e0 v V w2.drew (show DecAt w2.drew (w.heap.size + 2) 0 neg e0 false v false from k2) (k1.fr ((Fr.refl NoB w2).drew) (fun _ _ h => h)) hlen he0 he1);have HCO := hid (fun w => conditions_fl fl hfl w);have hs2 := HF2.out.size;clear k1 k2 k3 HSS;go_wp2_with fail;go_region_with (first | (go_at_call 24; refine (HCO.out _).mono ?_; rintro e w3 ⟨rfl, rfl⟩) | (go_at_call 25; refine HTO.out.mono ?_; rintro e w3 ⟨A, n, c, rfl, hown, hF3⟩; have hR3 := hF3.blk (show w2.drew.heap[w.heap.size + 1]? = _ from HR2.out) (fun h => h); have r0 := blk_cell hR3 0; have r1 := blk_cell hR3 1; have r2 := blk_cell hR3 2; have r3 := blk_cell hR3 3; have g0 := blk_frozen hR3 0; have g1 := blk_frozen hR3 1; have g2 := blk_frozen hR3 2; have g3 := blk_frozen hR3 3; simp only [List.getElem?_toArray, List.getElem?_cons_zero, List.getElem?_cons_succ] at r0 r1 r2 r3; have HF3 := hid (HF2.out.drew.trans hF3 (fun _ _ h => h)); have HOWN := hid hown; have HR3 := hid hR3; clear hF3 hown hR3));all_goals
  go_wp2_with fail;refine bodyPost_ret (v := .tuple #[.agg #[.int .i64 0, .bool neg, .slice A n c, .int .i64 e0], .int .i64 (condOf fl), .bool true]) (by simp [results, Tryz.results13, go_sem, r0, r1, r2, r3]) rfl ?_;have fin : ∀ a : World, Fr (fun i => i = w.heap.size + 1) w3 a → SetStrRes w neg fl V e0 (.returned (.tuple #[.agg #[.int .i64 0, .bool neg, .slice A n c, .int .i64 e0], .int .i64 (condOf fl), .bool true])) a := by
   intro a hFe;refine ⟨A, n, c, rfl, ?_, HF3.out.trans hFe (fun i hi h => by omega)⟩;have hs : w2.drew.heap.size = w2.heap.size := rfl;obtain ⟨a1, a2 | ⟨g', cap', cur', a2, a3, a4, a5⟩⟩ := HOWN.out;· exact ⟨a1, .inl a2⟩
   · exact ⟨a1, .inr ⟨g', cap', cur', a2, by omega, hFe.blk a4 (by have := blk_lt HR2.out; omega), a5⟩⟩
  exact fin _ (Fr.setCell (S := fun i => i = w.heap.size + 1) (p := ⟨w.heap.size + 1, 3, none⟩) (Fr.setCell (S := fun i => i = w.heap.size + 1) (p := ⟨w.heap.size + 1, 2, none⟩) (Fr.setCell (S := fun i => i = w.heap.size + 1) (p := ⟨w.heap.size + 1, 1, none⟩) (Fr.setCell (S := fun i => i = w.heap.size + 1) (p := ⟨w.heap.size + 1, 0, none⟩) (Fr.refl _ _) (fun _ => rfl) _) (fun _ => rfl) _) (fun _ => rfl) _) (fun _ => rfl) _)
end Go.Proofs.YteokhhepnoelhaaGreatDoor
