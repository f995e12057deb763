/-
  nat.expNN at the base 10: a power of ten.
-/
import Derived.Test.YteokhhepnoelhaaGreatDoorXah
import Derived.Test.YteokhhepnoelhaaGreatDoorXai
set_option linter.unusedVariables false
set_option linter.unusedSimpArgs false
namespace Go.Proofs.YteokhhepnoelhaaGreatDoor
open Go.RowKit
def expV (k j : Nat) : Nat := k * 2 ^ (65 - blen k + j) % 18446744073709551616
def expOk (k j : Nat) : Bool := decide (expV k j &&& 9223372036854775808 = if k / 2 ^ (blen k - 2 - j) % 2 = 1 then 9223372036854775808 else 0)
theorem expAll : (List.range 128).all (fun k => (List.range (blen k - 1)).all (expOk k)) = true := by decide +kernel
theorem expBit (k j : Nat) (hk : k < 128) (hj : j + 1 < blen k) : bits .and .u64 (expV k j : Int) 9223372036854775808 = if k / 2 ^ (blen k - 2 - j) % 2 = 1 then 9223372036854775808 else 0 := by
 have h := of_decide_eq_true (List.all_eq_true.1 (List.all_eq_true.1 expAll k (by simpa using hk)) j (by simp; omega));have hlt : expV k j < 18446744073709551616 := Nat.mod_lt _ (by omega);have := u64_and_nat (expV k j) 9223372036854775808 hlt (by omega);rw [h] at this;rw [show ((9223372036854775808 : Nat) : Int) = 9223372036854775808 from rfl] at this;rw [this];split <;> rfl
theorem expV_next (k j : Nat) : expV k j * 2 % 18446744073709551616 = expV k (j + 1) := by
 unfold expV;rw [Nat.mod_mul_mod, Nat.mul_assoc, ← Nat.pow_succ];rfl
theorem exp_step (k b j : Nat) (hj : j + 1 < b) : k / 2 ^ (b - 1 - (j + 1)) = 2 * (k / 2 ^ (b - 1 - j)) + k / 2 ^ (b - 2 - j) % 2 := by
 rw [show b - 1 - (j + 1) = b - 2 - j by omega, show b - 1 - j = (b - 2 - j) + 1 by omega, Nat.pow_succ, ← Nat.div_div_eq_div_mul];omega
theorem blen_le7 {k : Nat} (h : k < 128) : blen k ≤ 7 := by
 by_cases h0 : k = 0;· subst h0; decide
 · have := (blen_bounds h0).1;refine Nat.le_of_not_lt (fun hh => ?_);have h2 : 2 ^ 7 ≤ 2 ^ (blen k - 1) := Nat.pow_le_pow_right (by omega) (by omega);omega
theorem blen_ge2 {k : Nat} (h : 2 ≤ k) : 2 ≤ blen k := by
 have := (blen_bounds (show k ≠ 0 by omega)).2.1;refine Nat.le_of_not_lt (fun hh => ?_);have h2 : 2 ^ blen k ≤ 2 ^ 1 := Nat.pow_le_pow_right (by omega) (by omega);omega
theorem exp_first {k : Nat} (h : 2 ≤ k) : k / 2 ^ (blen k - 1 - 0) = 1 := by
 obtain ⟨b1, b2, b3⟩ := blen_bounds (show k ≠ 0 by omega);rw [Nat.sub_zero];have hp : 0 < 2 ^ (blen k - 1) := Nat.pow_pos (by omega);have e : 2 ^ blen k = 2 ^ (blen k - 1) * 2 := by rw [← Nat.pow_succ]; congr 1; omega
 have h1 : 1 ≤ k / 2 ^ (blen k - 1) := (Nat.le_div_iff_mul_le hp).2 (by omega);have h2 : k / 2 ^ (blen k - 1) < 2 := (Nat.div_lt_iff_lt_mul hp).2 (by omega);omega
theorem pow_len (k : Nat) (h : k ≤ 100) : (limbs (10 ^ k)).length ≤ 6 := by
 refine limbs_length_le 6 _ ?_;have h1 : 10 ^ k ≤ 10 ^ 100 := Nat.pow_le_pow_right (by omega) h;have h2 : (10 : Nat) ^ 100 < WB ^ 6 := by decide +kernel
 omega
theorem limbs_ten : limbs (10 ^ 1) = [10] := by rw [Nat.pow_one, limbs_pos (by omega), Nat.mod_eq_of_lt (by decide), Nat.div_eq_of_lt (by decide), limbs_zero]
def NewRes (w : World) (n : Nat) (e : Ending) (w' : World) : Prop :=
 ∃ v', e = .returned v' ∧ NatAt w' v' (limbs n) ∧ Fr NoB w w' ∧ ∀ g, natBlk v' = some g → w.heap.size ≤ g
def PowAt (w0 : World) (q : Nat) (z zz : Value) (wr : World) : Prop :=
 NatAt wr z (limbs (10 ^ q)) ∧ (∃ zs, NatAt wr zz zs) ∧ (∀ g, natBlk zz = some g → natBlk z ≠ some g) ∧ Fr NoB w0 wr ∧ (∀ g, natBlk z = some g → w0.heap.size ≤ g) ∧ ∀ g, natBlk zz = some g → w0.heap.size ≤ g
theorem PowAt.step {w0 wr w' : World} {q q' N : Nat} {z zz z' : Value} (h : PowAt w0 q z zz wr) (hr : NatRes wr zz N (.returned z') w') (hN : N = 10 ^ q') : PowAt w0 q' z' z w' := by
 obtain ⟨h1, ⟨zs, h2⟩, h3, h4, h5, h6⟩ := h;obtain ⟨v, hv, r1, r2, r3⟩ := hr;cases hv;have hz : NatAt w' z (limbs (10 ^ q)) := h1.fr r2 (fun g hg h => h3 g h hg);refine ⟨by rw [← hN]; exact r1, ⟨_, hz⟩, fun g hg hg' => ?_, ?_, fun g hg => ?_, h5⟩
 · rcases r3 g hg' with h | h
   · exact h3 g h hg
   · have := h1.lt g hg; omega
 · exact h4.trans r2 (fun i hi h => by have := h6 i h; omega)
 · rcases r3 g hg with h | h
   · exact h6 g h
   · have := h4.size; omega
theorem pow_ne (k : Nat) : (10 : Nat) ^ k ≠ 0 := Nat.ne_of_gt (Nat.pow_pos (by omega))
theorem getStack_any (w : World) : Calls Tryz.prog 182 #[] w fun e w' => e = .returned (.pointer (some ⟨w.heap.size, 0, none⟩)) ∧ w' = w.alloc (.cells #[.pointer none] 260) := by
 go_enter Tryz.func182, Tryz.ntmps182;go_wp2
 go_ret;exact ⟨rfl, rfl⟩
set_option maxRecDepth 100000 in
set_option maxHeartbeats 2000000 in
theorem expNN_10 (vx vy : Value) (k : Nat) (w : World) (hx : NatAt w vx [10]) (hy : NatAt w vy [k]) (hT : Thr w) (hk : 2 ≤ k) (hk' : k ≤ 100) :
 Calls Tryz.prog 252 #[.slice none 0 0, .pointer none, vx, vy, .slice none 0 0, .bool false] w (NewRes w (10 ^ k)) := by
 have HA1 := hid (fun w1 (hF : Fr NoB w w1) => alias_no (.slice none 0 0) vx [] [10] w1 (NatAt.nil _) (hx.fr hF (fun _ _ h => h)) (fun g h => by cases h));have HA2 := hid (fun w1 (hF : Fr NoB w w1) => alias_no (.slice none 0 0) vy [] [k] w1 (NatAt.nil _) (hy.fr hF (fun _ _ h => h)) (fun g h => by cases h));have HS := hid (fun w1 (hF : Fr NoB w w1) => natSet (.slice none 0 0) vx [] [10] w1 (NatAt.nil _) (hx.fr hF (fun _ _ h => h)) (by simp));obtain ⟨gx, capx, rfl, hcx, _, hgx, _, _⟩ := hx.cell (by simp);obtain ⟨gy, capy, rfl, hcy, _, hgy, _, _⟩ := hy.cell (by simp);rw [show ([10] : List Nat).length = 1 from rfl, show ([k] : List Nat).length = 1 from rfl] at *
 have HX := hid hx; have HY := hid hy; have HT := hid hT;have HCX := hid (hcx 0 10 rfl); have HCY := hid (hcy 0 k rfl);have k1 : ((k : Int) == 1) = false := beq_eq_false_iff_ne.2 (by omega);have hb2 := blen_ge2 hk;have hb7 := blen_le7 (show k < 128 by omega);obtain ⟨s0, hs0⟩ : ∃ s0, 64 - blen k = s0 := ⟨_, rfl⟩
 have HZ := hid (fun w => nlz_any k (by omega) w);rw [hs0] at HZ;have HS0 := hid hs0;clear hx hy hT hcx hcy;go_enter_defers Tryz.func252, Tryz.ntmps252;go_wp2_with fail;refine (HA1.out _ (Fr.refl _ _)).mono ?_;rintro e w1 ⟨rfl, hF1⟩;have HF1 := hid hF1;clear hF1;go_wp2_with fail;refine (HA2.out _ HF1.out).mono ?_;rintro e w2 ⟨rfl, hF2⟩;have hF2 : Fr NoB w w2 := HF1.out.trans hF2 (fun _ _ h => h);have cx := hF2.cell' HCX.out (fun h => h); have cy := hF2.cell' HCY.out (fun h => h);have HF2 := hid hF2;clear hF2;go_wp2_with fail;refine (getStack_any _).mono ?_;rintro e w3 ⟨rfl, hw3⟩;have hF3 : Fr NoB w w3 := by rw [hw3]; exact HF2.out.alloc _
 have hstk : w3.heap[w2.heap.size]? = some (.cells #[.pointer none] 260 (0, 0)) := by rw [hw3]; exact blk_new _ _
 have hs2 : w.heap.size ≤ w2.heap.size := HF2.out.size;have hs3 : w2.heap.size < w3.heap.size := blk_lt hstk;clear cx cy hw3;have cx := hF3.cell' HCX.out (fun h => h); have cy := hF3.cell' HCY.out (fun h => h);have HS3 := hid (HS.out w3 hF3);have HF3 := hid hF3; have HSTK := hid hstk;clear hF3 hstk;go_wp2_with fail;refine HS3.out.mono ?_;rintro e w4 ⟨z, rfl, hz, hF4, hbz⟩;have hF34 : Fr NoB w3 w4 := hF4.mono (fun i hi h => by cases h);have hF4 : Fr NoB w w4 := HF3.out.trans hF34 (fun _ _ h => h);have hbz : ∀ g, natBlk z = some g → w3.heap.size ≤ g := fun g hg => (hbz g hg).resolve_left (by intro h; cases h)
 have cx := hF4.cell' HCX.out (fun h => h); have cy := hF4.cell' HCY.out (fun h => h);have HZ4 := hid hz; have HF4 := hid hF4; have HBZ := hid hbz; have HF34 := hid hF34;clear hz hF4 hbz hF34;go_wp2_with fail;refine (HZ.out _).mono ?_;rintro e w5 ⟨rfl, rfl⟩;go_wp2_with fail;have hP0 : PowAt w3 (k / 2 ^ (blen k - 1 - 0)) z (.slice none 0 0) w4 := by
  rw [exp_first hk];exact ⟨by rw [limbs_ten]; exact HZ4.out, ⟨[], NatAt.nil _⟩, (fun g h => by cases h), HF34.out, HBZ.out, (fun g h => by cases h)⟩
 have HP0 := hid hP0;have hv0 : IntKind.u64.wrap ((k : Int) * 2 ^ (s0 + 1)) = (expV k 0 : Int) := by
  rw [u64_wrap];unfold expV;rw [show 65 - blen k + 0 = s0 + 1 by have := HS0.out; omega];simp
 have HV0 := hid hv0;have hbs : (64 : Int) - ((s0 : Int) + 1) = ((blen k : Int) - 1) := by have := HS0.out; omega
 have HBS := hid hbs;have hss : s0 + blen k = 64 := by have := HS0.out; omega
 clear hP0 hv0 hbs HZ4 HBZ HF34 cx cy;go_loopw [0, 15, 19, 21] (fun z v zz j wr => ∃ (j0 : Nat) (zv zzv : Value), zv = z ∧ zzv = zz ∧ j = .int .i64 j0 ∧ j0 + 1 ≤ blen k ∧ v = .int .u64 (expV k j0 : Int) ∧ Hid (PowAt w3 (k / 2 ^ (blen k - 1 - j0)) zv zzv wr)) (fun _ _ _ j _ => 100 - (intOf j).toNat);case atStart => exact ⟨0, _, _, rfl, rfl, rfl, by omega, by rw [HV0.out], HP0⟩
 case round =>
  obtain ⟨j0, z, zz, rfl, rfl, rfl, hj, rfl, hP⟩ := hrel;by_cases hlt : j0 + 1 < blen k
  · have hlt' : (j0 : Int) < 64 - ((s0 : Int) + 1) := by omega
    have hq100 : k / 2 ^ (blen k - 1 - j0) ≤ 100 := Nat.le_trans (Nat.div_le_self _ _) hk';obtain ⟨p1, ⟨zs, p2⟩, p3, p4, p5, p6⟩ := hP.out;have hFr : Fr NoB w wr := HF3.out.trans p4 (fun _ _ h => h);have hTr : Thr wr := HT.out.fr hFr (fun _ _ h => h);have HSQ := hid (natSqr zz z zs (10 ^ (k / 2 ^ (blen k - 1 - j0))) wr p2 p1 hTr p3 (pow_ne _) (Nat.le_trans (pow_len _ hq100) (by omega)) (.pointer (some ⟨w2.heap.size, 0, none⟩)));have hbit := expBit k j0 (by omega) hlt;have hvn : IntKind.u64.wrap ((expV k j0 : Int) * 2) = (expV k (j0 + 1) : Int) := by rw [u64_wrap, ← expV_next]; simp
    have hst := exp_step k (blen k) j0 hlt;have hvb : expV k j0 < 18446744073709551616 := Nat.mod_lt _ (by omega);have hxr := HX.out.fr hFr (fun g hg h => h);have HXR := hid hxr; have HFR := hid hFr; have HST := hid hst;clear p1 p2 p3 p4 p5 p6 hTr hxr hFr hst;by_cases hb : k / 2 ^ (blen k - 2 - j0) % 2 = 1
    · rw [if_pos hb] at hbit;have HB := hid hb;clear hb;go_wp2_with fail;refine HSQ.out.mono ?_;rintro e w6 ⟨z1, rfl, n1, n2, n3⟩;have hP1 := hP.out.step (q' := 2 * (k / 2 ^ (blen k - 1 - j0))) ⟨z1, rfl, n1, n2, n3⟩ (by rw [← Nat.pow_add]; congr 1; omega);have hx6 := HXR.out.fr n2 (fun g hg h => by
       obtain ⟨_, _, _, _, _, p6⟩ := hP.out;have h1 := p6 g h;have h2 : g = gx := by cases hg; rfl
       have := HF3.out.size;omega)
      obtain ⟨p1, ⟨zs', p2⟩, p3, p4, p5, p6⟩ := hP1;have HM := hid (natMul1 z z1 (.slice (some ⟨gx, 0, none⟩) 1 capx) (.pointer (some ⟨w2.heap.size, 0, none⟩)) zs' (10 ^ (2 * (k / 2 ^ (blen k - 1 - j0)))) 10 w6 p2 p1 hx6 (pow_ne _) (by decide) (Nat.le_trans (pow_len _ (Nat.le_trans (Nat.le_add_right _ _) (by rw [← HST.out]; exact Nat.le_trans (Nat.div_le_self _ _) hk'))) (by omega)));have HP1 := hid (show PowAt w3 (2 * (k / 2 ^ (blen k - 1 - j0))) z1 z w6 from ⟨p1, ⟨zs', p2⟩, p3, p4, p5, p6⟩);clear p1 p2 p3 p4 p5 p6 n1 n2 n3 hx6;go_wp2_with fail;refine HM.out.mono ?_;rintro e w7 ⟨z2, rfl, n1, n2, n3⟩;have hP2 := HP1.out.step (q' := k / 2 ^ (blen k - 1 - (j0 + 1))) ⟨z2, rfl, n1, n2, n3⟩ (by rw [HST.out, HB.out, ← Nat.pow_succ]);have HP2 := hid hP2;clear n1 n2 n3 hP2 HP1 HM HSQ hbit;go_wp2_with fail;go_roundw;case rel => exact ⟨j0 + 1, _, _, rfl, rfl, by go_num, by omega, rfl, HP2⟩
      case measure => simp [intOf]; omega
    · rw [if_neg hb] at hbit;have hb0 : k / 2 ^ (blen k - 2 - j0) % 2 = 0 := by omega
      have HB := hid hb0;clear hb hb0;go_wp2_with fail;refine HSQ.out.mono ?_;rintro e w6 ⟨z1, rfl, n1, n2, n3⟩;have hP1 := hP.out.step (q' := k / 2 ^ (blen k - 1 - (j0 + 1))) ⟨z1, rfl, n1, n2, n3⟩ (by rw [HST.out, HB.out, ← Nat.pow_add]; congr 1; omega);have HP1 := hid hP1;clear n1 n2 n3 hP1 HSQ;go_wp2_with fail;go_roundw;case rel => exact ⟨j0 + 1, _, _, rfl, rfl, by go_num, by omega, rfl, HP1⟩
      case measure => simp [intOf]; omega
  · have hge : ¬ (j0 : Int) < 64 - ((s0 : Int) + 1) := by omega
    have hj0 : blen k - 1 - j0 = 0 := by omega
    have hPk := hP.out;rw [hj0, Nat.pow_zero, Nat.div_one] at hPk;obtain ⟨p1, ⟨zs, p2⟩, p3, p4, p5, p6⟩ := hPk;have hstk : wr.cell? ⟨w2.heap.size, 0, none⟩ = some (.pointer none) := by
     rw [blk_cell (p4.blk HSTK.out (fun h => h))]; rfl
    have hN : NewRes w (10 ^ k) (.returned z) wr := ⟨z, rfl, p1, HF3.out.trans p4 (fun _ _ h => h), fun g hg => by have := p5 g hg; have := HF3.out.size; omega⟩
    have N := hid hN; have HSK := hid hstk;have hnorm := hid (natNorm z _ wr p1);clear p1 p2 p3 p4 p5 p6 hN hstk hj0 hP;go_wp2_with fail;refine wp_loop_rounds 1 ?_;rw [rounds_succ];go_wp2_with fail;refine hnorm.out.mono ?_;rintro e w5 ⟨rfl, v', rfl, k1, k2⟩;have hN2 : NewRes w (10 ^ k) (.returned v') wr := by
     obtain ⟨z', hz', n1, n2, n3⟩ := N.out;cases hz';refine ⟨v', rfl, ?_, n2, fun g hg => n3 g (by rw [← k2]; exact hg)⟩;rw [normL_limbs _ (limbs_lt _), nval_limbs] at k1;exact k1
    have N2 := hid hN2;clear hN2 k1 k2 N;go_wp2_with fail;refine leaves_cons (f := 183) (args := #[.pointer (some ⟨w2.heap.size, 0, none⟩)]) (by simp) (by simp [go_sem]) ?_;refine (free_deferred _ .returning _ HSK.out).mono ?_;rintro e u' w'' ⟨rfl, rfl, rfl⟩;refine ⟨_, results_tmp (t := 12) rfl _ _ _, ?_⟩;exact N2.out
set_option maxRecDepth 100000 in
set_option maxHeartbeats 2000000 in
theorem expNN_10_self (vx vy : Value) (k : Nat) (w : World) (hx : NatAt w vx [10]) (hy : NatAt w vy [k]) (hT : Thr w) (hk : 2 ≤ k) (hk' : k ≤ 100) :
 Calls Tryz.prog 252 #[vx, .pointer none, vx, vy, .slice none 0 0, .bool false] w (NewRes w (10 ^ k)) := by
 have HS := hid (fun w1 (hF : Fr NoB w w1) => natSet (.slice none 0 0) vx [] [10] w1 (NatAt.nil _) (hx.fr hF (fun _ _ h => h)) (by simp));obtain ⟨gx, capx, rfl, hcx, hcapx, hgx, hcapm, _⟩ := hx.cell (by simp);have HA1 := hid (alias_yes gx 1 capx 1 capx (by simpa using hcapx) hcapm w);clear hcapx hcapm;obtain ⟨gy, capy, rfl, hcy, _, hgy, _, _⟩ := hy.cell (by simp);rw [show ([10] : List Nat).length = 1 from rfl, show ([k] : List Nat).length = 1 from rfl] at *
 have HX := hid hx; have HY := hid hy; have HT := hid hT;have HCX := hid (hcx 0 10 rfl); have HCY := hid (hcy 0 k rfl);have k1 : ((k : Int) == 1) = false := beq_eq_false_iff_ne.2 (by omega);have hb2 := blen_ge2 hk;have hb7 := blen_le7 (show k < 128 by omega);obtain ⟨s0, hs0⟩ : ∃ s0, 64 - blen k = s0 := ⟨_, rfl⟩
 have HZ := hid (fun w => nlz_any k (by omega) w);rw [hs0] at HZ;have HS0 := hid hs0;clear hx hy hT hcx hcy;go_enter_defers Tryz.func252, Tryz.ntmps252;go_wp2_with fail;refine HA1.out.mono ?_;rintro e w2 ⟨rfl, hF2⟩;have cx := hF2.cell' HCX.out (fun h => h); have cy := hF2.cell' HCY.out (fun h => h);have HF2 := hid hF2;clear hF2;go_wp2_with fail;refine (getStack_any _).mono ?_;rintro e w3 ⟨rfl, hw3⟩;have hF3 : Fr NoB w w3 := by rw [hw3]; exact HF2.out.alloc _
 have hstk : w3.heap[w2.heap.size]? = some (.cells #[.pointer none] 260 (0, 0)) := by rw [hw3]; exact blk_new _ _
 have hs2 : w.heap.size ≤ w2.heap.size := HF2.out.size;have hs3 : w2.heap.size < w3.heap.size := blk_lt hstk;clear cx cy hw3;have cx := hF3.cell' HCX.out (fun h => h); have cy := hF3.cell' HCY.out (fun h => h);have HS3 := hid (HS.out w3 hF3);have HF3 := hid hF3; have HSTK := hid hstk;clear hF3 hstk;go_wp2_with fail;refine HS3.out.mono ?_;rintro e w4 ⟨z, rfl, hz, hF4, hbz⟩;have hF34 : Fr NoB w3 w4 := hF4.mono (fun i hi h => by cases h);have hF4 : Fr NoB w w4 := HF3.out.trans hF34 (fun _ _ h => h);have hbz : ∀ g, natBlk z = some g → w3.heap.size ≤ g := fun g hg => (hbz g hg).resolve_left (by intro h; cases h)
 have cx := hF4.cell' HCX.out (fun h => h); have cy := hF4.cell' HCY.out (fun h => h);have HZ4 := hid hz; have HF4 := hid hF4; have HBZ := hid hbz; have HF34 := hid hF34;clear hz hF4 hbz hF34;go_wp2_with fail;refine (HZ.out _).mono ?_;rintro e w5 ⟨rfl, rfl⟩;go_wp2_with fail;have hP0 : PowAt w3 (k / 2 ^ (blen k - 1 - 0)) z (.slice none 0 0) w4 := by
  rw [exp_first hk];exact ⟨by rw [limbs_ten]; exact HZ4.out, ⟨[], NatAt.nil _⟩, (fun g h => by cases h), HF34.out, HBZ.out, (fun g h => by cases h)⟩
 have HP0 := hid hP0;have hv0 : IntKind.u64.wrap ((k : Int) * 2 ^ (s0 + 1)) = (expV k 0 : Int) := by
  rw [u64_wrap];unfold expV;rw [show 65 - blen k + 0 = s0 + 1 by have := HS0.out; omega];simp
 have HV0 := hid hv0;have hbs : (64 : Int) - ((s0 : Int) + 1) = ((blen k : Int) - 1) := by have := HS0.out; omega
 have HBS := hid hbs;have hss : s0 + blen k = 64 := by have := HS0.out; omega
 clear hP0 hv0 hbs HZ4 HBZ HF34 cx cy;go_loopw [0, 15, 19, 21] (fun z v zz j wr => ∃ (j0 : Nat) (zv zzv : Value), zv = z ∧ zzv = zz ∧ j = .int .i64 j0 ∧ j0 + 1 ≤ blen k ∧ v = .int .u64 (expV k j0 : Int) ∧ Hid (PowAt w3 (k / 2 ^ (blen k - 1 - j0)) zv zzv wr)) (fun _ _ _ j _ => 100 - (intOf j).toNat);case atStart => exact ⟨0, _, _, rfl, rfl, rfl, by omega, by rw [HV0.out], HP0⟩
 case round =>
  obtain ⟨j0, z, zz, rfl, rfl, rfl, hj, rfl, hP⟩ := hrel;by_cases hlt : j0 + 1 < blen k
  · have hlt' : (j0 : Int) < 64 - ((s0 : Int) + 1) := by omega
    have hq100 : k / 2 ^ (blen k - 1 - j0) ≤ 100 := Nat.le_trans (Nat.div_le_self _ _) hk';obtain ⟨p1, ⟨zs, p2⟩, p3, p4, p5, p6⟩ := hP.out;have hFr : Fr NoB w wr := HF3.out.trans p4 (fun _ _ h => h);have hTr : Thr wr := HT.out.fr hFr (fun _ _ h => h);have HSQ := hid (natSqr zz z zs (10 ^ (k / 2 ^ (blen k - 1 - j0))) wr p2 p1 hTr p3 (pow_ne _) (Nat.le_trans (pow_len _ hq100) (by omega)) (.pointer (some ⟨w2.heap.size, 0, none⟩)));have hbit := expBit k j0 (by omega) hlt;have hvn : IntKind.u64.wrap ((expV k j0 : Int) * 2) = (expV k (j0 + 1) : Int) := by rw [u64_wrap, ← expV_next]; simp
    have hst := exp_step k (blen k) j0 hlt;have hvb : expV k j0 < 18446744073709551616 := Nat.mod_lt _ (by omega);have hxr := HX.out.fr hFr (fun g hg h => h);have HXR := hid hxr; have HFR := hid hFr; have HST := hid hst;clear p1 p2 p3 p4 p5 p6 hTr hxr hFr hst;by_cases hb : k / 2 ^ (blen k - 2 - j0) % 2 = 1
    · rw [if_pos hb] at hbit;have HB := hid hb;clear hb;go_wp2_with fail;refine HSQ.out.mono ?_;rintro e w6 ⟨z1, rfl, n1, n2, n3⟩;have hP1 := hP.out.step (q' := 2 * (k / 2 ^ (blen k - 1 - j0))) ⟨z1, rfl, n1, n2, n3⟩ (by rw [← Nat.pow_add]; congr 1; omega);have hx6 := HXR.out.fr n2 (fun g hg h => by
       obtain ⟨_, _, _, _, _, p6⟩ := hP.out;have h1 := p6 g h;have h2 : g = gx := by cases hg; rfl
       have := HF3.out.size;omega)
      obtain ⟨p1, ⟨zs', p2⟩, p3, p4, p5, p6⟩ := hP1;have HM := hid (natMul1 z z1 (.slice (some ⟨gx, 0, none⟩) 1 capx) (.pointer (some ⟨w2.heap.size, 0, none⟩)) zs' (10 ^ (2 * (k / 2 ^ (blen k - 1 - j0)))) 10 w6 p2 p1 hx6 (pow_ne _) (by decide) (Nat.le_trans (pow_len _ (Nat.le_trans (Nat.le_add_right _ _) (by rw [← HST.out]; exact Nat.le_trans (Nat.div_le_self _ _) hk'))) (by omega)));have HP1 := hid (show PowAt w3 (2 * (k / 2 ^ (blen k - 1 - j0))) z1 z w6 from ⟨p1, ⟨zs', p2⟩, p3, p4, p5, p6⟩);clear p1 p2 p3 p4 p5 p6 n1 n2 n3 hx6;go_wp2_with fail;refine HM.out.mono ?_;rintro e w7 ⟨z2, rfl, n1, n2, n3⟩;have hP2 := HP1.out.step (q' := k / 2 ^ (blen k - 1 - (j0 + 1))) ⟨z2, rfl, n1, n2, n3⟩ (by rw [HST.out, HB.out, ← Nat.pow_succ]);have HP2 := hid hP2;clear n1 n2 n3 hP2 HP1 HM HSQ hbit;go_wp2_with fail;go_roundw;case rel => exact ⟨j0 + 1, _, _, rfl, rfl, by go_num, by omega, rfl, HP2⟩
      case measure => simp [intOf]; omega
    · rw [if_neg hb] at hbit;have hb0 : k / 2 ^ (blen k - 2 - j0) % 2 = 0 := by omega
      have HB := hid hb0;clear hb hb0;go_wp2_with fail;refine HSQ.out.mono ?_;rintro e w6 ⟨z1, rfl, n1, n2, n3⟩;have hP1 := hP.out.step (q' := k / 2 ^ (blen k - 1 - (j0 + 1))) ⟨z1, rfl, n1, n2, n3⟩ (by rw [HST.out, HB.out, ← Nat.pow_add]; congr 1; omega);have HP1 := hid hP1;clear n1 n2 n3 hP1 HSQ;go_wp2_with fail;go_roundw;case rel => exact ⟨j0 + 1, _, _, rfl, rfl, by go_num, by omega, rfl, HP1⟩
      case measure => simp [intOf]; omega
  · have hge : ¬ (j0 : Int) < 64 - ((s0 : Int) + 1) := by omega
    have hj0 : blen k - 1 - j0 = 0 := by omega
    have hPk := hP.out;rw [hj0, Nat.pow_zero, Nat.div_one] at hPk;obtain ⟨p1, ⟨zs, p2⟩, p3, p4, p5, p6⟩ := hPk;have hstk : wr.cell? ⟨w2.heap.size, 0, none⟩ = some (.pointer none) := by
     rw [blk_cell (p4.blk HSTK.out (fun h => h))]; rfl
    have hN : NewRes w (10 ^ k) (.returned z) wr := ⟨z, rfl, p1, HF3.out.trans p4 (fun _ _ h => h), fun g hg => by have := p5 g hg; have := HF3.out.size; omega⟩
    have N := hid hN; have HSK := hid hstk;have hnorm := hid (natNorm z _ wr p1);clear p1 p2 p3 p4 p5 p6 hN hstk hj0 hP;go_wp2_with fail;refine wp_loop_rounds 1 ?_;rw [rounds_succ];go_wp2_with fail;refine hnorm.out.mono ?_;rintro e w5 ⟨rfl, v', rfl, k1, k2⟩;have hN2 : NewRes w (10 ^ k) (.returned v') wr := by
     obtain ⟨z', hz', n1, n2, n3⟩ := N.out;cases hz';refine ⟨v', rfl, ?_, n2, fun g hg => n3 g (by rw [← k2]; exact hg)⟩;rw [normL_limbs _ (limbs_lt _), nval_limbs] at k1;exact k1
    have N2 := hid hN2;clear hN2 k1 k2 N;go_wp2_with fail;refine leaves_cons (f := 183) (args := #[.pointer (some ⟨w2.heap.size, 0, none⟩)]) (by simp) (by simp [go_sem]) ?_;refine (free_deferred _ .returning _ HSK.out).mono ?_;rintro e u' w'' ⟨rfl, rfl, rfl⟩;refine ⟨_, results_tmp (t := 12) rfl _ _ _, ?_⟩;exact N2.out
set_option maxRecDepth 100000 in
set_option maxHeartbeats 2000000 in
theorem expNN_one (vx vy : Value) (self : Bool) (w : World) (hx : NatAt w vx [10]) (hy : NatAt w vy [1]) :
 Calls Tryz.prog 252 #[if self then vx else .slice none 0 0, .pointer none, vx, vy, .slice none 0 0, .bool false] w (NewRes w (10 ^ 1)) := by
 have HA1 := hid (fun w1 (hF : Fr NoB w w1) => alias_no (.slice none 0 0) vx [] [10] w1 (NatAt.nil _) (hx.fr hF (fun _ _ h => h)) (fun g h => by cases h));have HA2 := hid (fun w1 (hF : Fr NoB w w1) => alias_no (.slice none 0 0) vy [] [1] w1 (NatAt.nil _) (hy.fr hF (fun _ _ h => h)) (fun g h => by cases h));have HS := hid (fun w1 (hF : Fr NoB w w1) => natSet (.slice none 0 0) vx [] [10] w1 (NatAt.nil _) (hx.fr hF (fun _ _ h => h)) (by simp));obtain ⟨gx, capx, rfl, hcx, hcapx, hgx, hcapm, _⟩ := hx.cell (by simp);obtain ⟨gy, capy, rfl, hcy, _, hgy, _, _⟩ := hy.cell (by simp);have HAY := hid (alias_yes gx 1 capx 1 capx (by simpa using hcapx) hcapm w);rw [show ([10] : List Nat).length = 1 from rfl, show ([1] : List Nat).length = 1 from rfl] at *
 have HCX := hid (hcx 0 10 rfl); have HCY := hid (hcy 0 1 rfl);have fin : ∀ (w1 w2 : World) (v' : Value), Fr NoB w w1 → RowRes w1 (.slice none 0 0) [10] (.returned v') w2 → NewRes w (10 ^ 1) (.returned v') w2 := by
  rintro w1 w2 v' hF ⟨v, hv, r1, r2, r3⟩;cases hv;exact ⟨_, rfl, by rw [limbs_ten]; exact r1, hF.trans (r2.mono (fun i hi h => by cases h)) (fun _ _ h => h), fun g hg => by
   rcases r3 g hg with h | h;· cases h
   · have := hF.size; omega⟩
 have FIN := hid fin;clear hx hy hcx hcy hcapx hcapm fin;cases self with
 | true =>
  go_enter_defers Tryz.func252, Tryz.ntmps252;go_wp2_with fail;refine HAY.out.mono ?_;rintro e w2 ⟨rfl, hF2⟩;have cx := hF2.cell' HCX.out (fun h => h); have cy := hF2.cell' HCY.out (fun h => h);have HS2 := hid (HS.out w2 hF2);have HF2 := hid hF2;clear hF2;go_wp2_with fail;refine HS2.out.mono ?_;rintro e w4 ⟨v', rfl, r1, r2, r3⟩;have N := hid (FIN.out w2 w4 v' HF2.out ⟨v', rfl, r1, r2, r3⟩);clear r1 r2 r3;go_wp2_with fail;refine ⟨_, results_tmp (t := 12) rfl _ _ _, ?_⟩;exact N.out
 | false =>
  go_enter_defers Tryz.func252, Tryz.ntmps252;go_wp2_with fail;refine (HA1.out _ (Fr.refl _ _)).mono ?_;rintro e w1 ⟨rfl, hF1⟩;have HF1 := hid hF1;clear hF1;go_wp2_with fail;refine (HA2.out _ HF1.out).mono ?_;rintro e w2 ⟨rfl, hF2⟩;have hF2 : Fr NoB w w2 := HF1.out.trans hF2 (fun _ _ h => h);have cx := hF2.cell' HCX.out (fun h => h); have cy := hF2.cell' HCY.out (fun h => h);have HS2 := hid (HS.out w2 hF2);have HF2 := hid hF2;clear hF2;go_wp2_with fail;refine HS2.out.mono ?_;rintro e w4 ⟨v', rfl, r1, r2, r3⟩;have N := hid (FIN.out w2 w4 v' HF2.out ⟨v', rfl, r1, r2, r3⟩);clear r1 r2 r3;go_wp2_with fail;refine ⟨_, results_tmp (t := 12) rfl _ _ _, ?_⟩;exact N.out
theorem expNN_any (vx vy : Value) (self : Bool) (k : Nat) (w : World) (hx : NatAt w vx [10]) (hy : NatAt w vy [k]) (hT : Thr w) (hk : 1 ≤ k) (hk' : k ≤ 100) :
 Calls Tryz.prog 252 #[if self then vx else .slice none 0 0, .pointer none, vx, vy, .slice none 0 0, .bool false] w (NewRes w (10 ^ k)) := by
 by_cases h1 : k = 1;· subst h1; exact expNN_one vx vy self w hx hy
 · cases self with
   | true => exact expNN_10_self vx vy k w hx hy hT (by omega) hk'
   | false => exact expNN_10 vx vy k w hx hy hT (by omega) hk'
def BlkAt (w : World) (B : Nat) (cs : Array Value) (t : TypeId) : Prop := w.heap[B]? = some (.cells cs t (0, 0))
def setInt (cs : Array Value) (o : Nat) (v : Value) : Array Value := (cs.setIfInBounds (o + 1) v).setIfInBounds o (.bool false)
def IntRes (w : World) (B o : Nat) (cs : Array Value) (t : TypeId) (n : Nat) (w' : World) : Prop :=
 ∃ v', BlkAt w' B (setInt cs o v') t ∧ NatAt w' v' (limbs n) ∧ (∀ g, natBlk v' = some g → w.heap.size ≤ g) ∧ Fr (fun i => i = B) w w'
set_option maxRecDepth 100000 in
set_option maxHeartbeats 1000000 in
theorem intSetInt64 (B o : Nat) (cs : Array Value) (t : TypeId) (n0 : Bool) (x : Nat) (w : World) (hB : BlkAt w B cs t) (h0 : cs[o]? = some (.bool n0)) (h1 : cs[o + 1]? = some (.slice none 0 0)) (hx : x < 9223372036854775808) :
 Calls Tryz.prog 81 #[.pointer (some ⟨B, o, none⟩), .int .i64 (x : Int)] w fun e w' => e = .returned (.pointer (some ⟨B, o, none⟩)) ∧ IntRes w B o cs t x w' := by
 have HS := hid (natSetWord (.slice none 0 0) [] x (by rw [WB_eq]; omega) w (NatAt.nil _));have k0 : w.cell? ⟨B, o, none⟩ = some (.bool n0) := by rw [blk_cell hB]; exact h0
 have k1 : w.cell? ⟨B, o + 1, none⟩ = some (.slice none 0 0) := by rw [blk_cell hB]; exact h1
 have HB := hid hB; have H0 := hid h0; have H1 := hid h1;have hxx : IntKind.u64.wrap (x : Int) = (x : Int) := by rw [u64_wrap]; omega
 clear hB h0 h1;go_enter Tryz.func81, Tryz.ntmps81;go_wp2_with (first | (go_at_call 122; go_in));refine HS.out.mono ?_;rintro e w1 ⟨v', rfl, r1, r2, r3⟩;have hF : Fr NoB w w1 := r2.mono (fun i hi h => by cases h);have hb1 : BlkAt w1 B cs t := hF.blk HB.out (fun h => h);have k0' : w1.cell? ⟨B, o, none⟩ = some (.bool n0) := by rw [blk_cell hb1]; exact H0.out
 have f0' : w1.frozen? ⟨B, o, none⟩ = false := blk_frozen hb1 _;have k1' : w1.cell? ⟨B, o + 1, none⟩ = some (.slice none 0 0) := by rw [blk_cell hb1]; exact H1.out
 have f1' : w1.frozen? ⟨B, o + 1, none⟩ = false := blk_frozen hb1 _;have s1 := blk_set hb1 (o + 1) v';have s0 := blk_set s1 o (.bool false);have hfin : IntRes w B o cs t x ((w1.setCell ⟨B, o + 1, none⟩ v').setCell ⟨B, o, none⟩ (.bool false)) := by
  refine ⟨v', s0, ?_, fun g hg => (r3 g hg).resolve_left (by intro h; cases h), ?_⟩
  · have hF2 : Fr (fun i => i = B) w1 ((w1.setCell ⟨B, o + 1, none⟩ v').setCell ⟨B, o, none⟩ (.bool false)) :=
     Fr.setCell (S := fun i => i = B) (p := ⟨B, o, none⟩) (Fr.setCell (S := fun i => i = B) (p := ⟨B, o + 1, none⟩) (Fr.refl _ _) (fun _ => rfl) _) (fun _ => rfl) _
    exact r1.fr hF2 (fun g hg h => by
     have h : g = B := h;have h2 := (r3 g hg).resolve_left (by intro h; cases h);have h3 := blk_lt HB.out;omega)
  · exact Fr.setCell (S := fun i => i = B) (p := ⟨B, o, none⟩) (Fr.setCell (S := fun i => i = B) (p := ⟨B, o + 1, none⟩) (hF.mono (fun _ _ h => h.elim)) (fun _ => rfl) _) (fun _ => rfl) _
 have hsh := r1.shape;obtain ⟨A, c, rfl⟩ := hsh;have FIN := hid hfin;have k0'' : (w1.setCell ⟨B, o + 1, none⟩ (.slice A (limbs x).length c)).cell? ⟨B, o, none⟩ = some (.bool n0) := by
  rw [blk_cell s1, Array.getElem?_setIfInBounds, if_neg (by omega)]; exact H0.out
 have f0'' : (w1.setCell ⟨B, o + 1, none⟩ (.slice A (limbs x).length c)).frozen? ⟨B, o, none⟩ = false := blk_frozen s1 _;clear hfin s0 s1 hb1 hF r1 r2 r3;generalize (limbs x).length = n at *
 go_wp2_with fail;go_ret;exact ⟨rfl, FIN.out⟩
set_option maxRecDepth 100000 in
set_option maxHeartbeats 1000000 in
theorem bigSetInt64 (B o : Nat) (cs : Array Value) (t : TypeId) (n0 m0 : Bool) (x : Nat) (w : World) (hB : BlkAt w B cs t) (h0 : cs[o]? = some (.bool n0)) (h1 : cs[o + 1]? = some (.slice none 0 0)) (h2 : cs[o + 2]? = some (.bool m0)) (hx : x < 9223372036854775808) :
 Calls Tryz.prog 53 #[.pointer (some ⟨B, o, none⟩), .int .i64 (x : Int)] w fun e w' => e = .returned (.pointer (some ⟨B, o, none⟩)) ∧ IntRes w B o (cs.setIfInBounds (o + 2) (.bool false)) t x w' := by
 have k2 : w.cell? ⟨B, o + 2, none⟩ = some (.bool m0) := by rw [blk_cell hB]; exact h2
 have f2 : w.frozen? ⟨B, o + 2, none⟩ = false := blk_frozen hB _;have s2 := blk_set hB (o + 2) (.bool false);have HI := intSetInt64 B o (cs.setIfInBounds (o + 2) (.bool false)) t n0 x (w.setCell ⟨B, o + 2, none⟩ (.bool false)) s2 (by rw [Array.getElem?_setIfInBounds, if_neg (by omega)]; exact h0) (by rw [Array.getElem?_setIfInBounds, if_neg (by omega)]; exact h1) hx;have HI := hid HI;have hF : Fr (fun i => i = B) w (w.setCell ⟨B, o + 2, none⟩ (.bool false)) := Fr.setCell (S := fun i => i = B) (p := ⟨B, o + 2, none⟩) (Fr.refl _ _) (fun _ => rfl) _;have HF := hid hF;have HSZ : Hid ((w.setCell ⟨B, o + 2, none⟩ (.bool false)).heap.size = w.heap.size) := hid (by simp);clear hB h0 h1 h2 s2 hF;go_enter Tryz.func53, Tryz.ntmps53;go_wp2_with fail;refine HI.out.mono ?_;rintro e w1 ⟨rfl, v', r1, r2, r3, r4⟩;have N := hid (show IntRes w B o (cs.setIfInBounds (o + 2) (.bool false)) t x w1 from ⟨v', r1, r2, fun g hg => by have := r3 g hg; rw [HSZ.out] at this; exact this, HF.out.trans r4 (fun _ _ h => h)⟩);clear r1 r2 r3 r4;go_wp2_with fail;go_ret;exact ⟨rfl, N.out⟩
def NewBig (w : World) (n : Nat) (e : Ending) (w' : World) : Prop :=
 e = .returned (.pointer (some ⟨w.heap.size, 0, none⟩)) ∧ ∃ v', BlkAt w' w.heap.size #[.bool false, v', .bool false] 70 ∧ NatAt w' v' (limbs n) ∧ (∀ g, natBlk v' = some g → w.heap.size < g) ∧ Fr NoB w w'
set_option maxRecDepth 100000 in
set_option maxHeartbeats 1000000 in
theorem newBigInt (x : Nat) (hx : x < 9223372036854775808) (w : World) : Calls Tryz.prog 146 #[.int .i64 (x : Int)] w (NewBig w x) := by
 have hb := blk_new w (.cells #[.bool false, .slice none 0 0, .bool false] 70 (0, 0));have HI := hid (intSetInt64 w.heap.size 0 #[.bool false, .slice none 0 0, .bool false] 70 false x (w.alloc (.cells #[.bool false, .slice none 0 0, .bool false] 70)) hb rfl rfl hx);have hF : Fr NoB w (w.alloc (.cells #[.bool false, .slice none 0 0, .bool false] 70)) := (Fr.refl _ _).alloc _;have hsz : (w.alloc (.cells #[.bool false, .slice none 0 0, .bool false] 70)).heap.size = w.heap.size + 1 := by simp
 have fin : ∀ w1, IntRes (w.alloc (.cells #[.bool false, .slice none 0 0, .bool false] 70)) w.heap.size 0 #[.bool false, .slice none 0 0, .bool false] 70 x w1 → NewBig w x (.returned (.pointer (some ⟨w.heap.size, 0, none⟩))) w1 := by
  rintro w1 ⟨v', r1, r2, r3, r4⟩;exact ⟨rfl, v', r1, r2, fun g hg => by have := r3 g hg; omega, hF.trans r4 (fun i hi h => by have h : i = w.heap.size := h; omega)⟩
 have FIN := hid fin;clear hb hF hsz fin;go_enter Tryz.func146, Tryz.ntmps146;go_wp2_with fail;refine HI.out.mono ?_;rintro e w1 ⟨rfl, r⟩;have N := hid (FIN.out w1 r);clear r;go_wp2_with fail;go_ret;exact N.out
theorem bigTen_any (w : World) : Calls Tryz.prog 151 #[] w (NewBig w 10) := by
 have H := hid (newBigInt 10 (by omega) w);go_enter Tryz.func151, Tryz.ntmps151;go_wp2_with fail;refine H.out.mono ?_;rintro e w1 ⟨rfl, r⟩;have N := hid (show NewBig w 10 _ w1 from ⟨rfl, r⟩);clear r;go_wp2_with fail;go_ret;exact N.out
set_option maxRecDepth 100000 in
set_option maxHeartbeats 2000000 in
theorem intExp (Z oz X ox Y oy : Nat) (cs : Array Value) (t : TypeId) (n0 : Bool) (vx vy : Value) (self : Bool) (k : Nat) (w : World) (hZ : BlkAt w Z cs t) (h0 : cs[oz]? = some (.bool n0)) (h1 : cs[oz + 1]? = some (if self then vx else .slice none 0 0))
 (x0 : w.cell? ⟨X, ox, none⟩ = some (.bool false)) (x1 : w.cell? ⟨X, ox + 1, none⟩ = some vx) (y0 : w.cell? ⟨Y, oy, none⟩ = some (.bool false)) (y1 : w.cell? ⟨Y, oy + 1, none⟩ = some vy)
 (hx : NatAt w vx [10]) (hy : NatAt w vy [k]) (hT : Thr w) (hk : 1 ≤ k) (hk' : k ≤ 100) (hXZ : (X = Z ∧ ox = oz) ∨ X ≠ Z) :
 Calls Tryz.prog 239 #[.pointer (some ⟨Z, oz, none⟩), .pointer (some ⟨X, ox, none⟩), .pointer (some ⟨Y, oy, none⟩), .pointer none, .bool false] w
  fun e w' => e = .returned (.pointer (some ⟨Z, oz, none⟩)) ∧ IntRes w Z oz cs t (10 ^ k) w' := by
 have HE := hid (expNN_any vx vy self k w hx hy hT hk hk');have z0 : w.cell? ⟨Z, oz, none⟩ = some (.bool n0) := by rw [blk_cell hZ]; exact h0
 have z1 : w.cell? ⟨Z, oz + 1, none⟩ = some (if self then vx else .slice none 0 0) := by rw [blk_cell hZ]; exact h1
 have hsx := hx.shape;obtain ⟨A, c, rfl⟩ := hx.shape;obtain ⟨A', c', rfl⟩ := hy.shape;rw [show ([10] : List Nat).length = 1 from rfl, show ([k] : List Nat).length = 1 from rfl] at *
 have HZ := hid hZ; have H0 := hid h0; have H1 := hid h1; have X0 := hid x0; have XZ := hid hXZ;have hzv : ∃ A2 n2 c2, (if self then Value.slice A 1 c else .slice none 0 0) = .slice A2 n2 c2 := by cases self <;> exact ⟨_, _, _, rfl⟩
 obtain ⟨A2, n2, c2, hz2⟩ := hzv;rw [hz2] at z1 HE H1 h1;clear hZ h0 h1 hx hy hT hXZ hsx hz2;go_enter Tryz.func239, Tryz.ntmps239;go_wp2_with fail;refine HE.out.mono ?_;rintro e w1 ⟨v', rfl, r1, hF, r3⟩;have hb1 : BlkAt w1 Z cs t := hF.blk HZ.out (fun h => h);have k1' : w1.cell? ⟨Z, oz + 1, none⟩ = some (.slice A2 n2 c2) := by rw [blk_cell hb1]; exact H1.out
 have f1' : w1.frozen? ⟨Z, oz + 1, none⟩ = false := blk_frozen hb1 _;obtain ⟨Av, cv, rfl⟩ := r1.shape;have s1 := blk_set hb1 (oz + 1) (.slice Av (limbs (10 ^ k)).length cv);have s0 := blk_set s1 oz (.bool false);have hlt : (oz + 1) < cs.size := (Array.getElem?_eq_some_iff.1 H1.out).1;have q1 : (w1.setCell ⟨Z, oz + 1, none⟩ (.slice Av (limbs (10 ^ k)).length cv)).cell? ⟨Z, oz + 1, none⟩ = some (.slice Av (limbs (10 ^ k)).length cv) := by
  rw [blk_cell s1, Array.getElem?_setIfInBounds, if_pos rfl, if_pos hlt]
 have qx : (w1.setCell ⟨Z, oz + 1, none⟩ (.slice Av (limbs (10 ^ k)).length cv)).cell? ⟨X, ox, none⟩ = some (.bool false) := by
  have hx1 : w1.cell? ⟨X, ox, none⟩ = some (.bool false) := hF.cell' X0.out (fun h => h);rcases XZ.out with ⟨rfl, rfl⟩ | h;· rw [blk_cell s1, Array.getElem?_setIfInBounds, if_neg (by omega), ← blk_cell hb1]; exact hx1
  · have hF2 : Fr (fun i => i = Z) w1 (w1.setCell ⟨Z, oz + 1, none⟩ (.slice Av (limbs (10 ^ k)).length cv)) := Fr.setCell (S := fun i => i = Z) (p := ⟨Z, oz + 1, none⟩) (Fr.refl _ _) (fun _ => rfl) _;exact hF2.cell' hx1 h
 have q0 : (w1.setCell ⟨Z, oz + 1, none⟩ (.slice Av (limbs (10 ^ k)).length cv)).cell? ⟨Z, oz, none⟩ = some (.bool n0) := by
  rw [blk_cell s1, Array.getElem?_setIfInBounds, if_neg (by omega)]; exact H0.out
 have g0 : (w1.setCell ⟨Z, oz + 1, none⟩ (.slice Av (limbs (10 ^ k)).length cv)).frozen? ⟨Z, oz, none⟩ = false := blk_frozen s1 _;have hfin : IntRes w Z oz cs t (10 ^ k) ((w1.setCell ⟨Z, oz + 1, none⟩ (.slice Av (limbs (10 ^ k)).length cv)).setCell ⟨Z, oz, none⟩ (.bool false)) := by
  have hF2 : ∀ a, Fr (fun i => i = Z) a w1 → Fr (fun i => i = Z) a ((w1.setCell ⟨Z, oz + 1, none⟩ (.slice Av (limbs (10 ^ k)).length cv)).setCell ⟨Z, oz, none⟩ (.bool false)) := fun a ha =>
   Fr.setCell (S := fun i => i = Z) (p := ⟨Z, oz, none⟩) (Fr.setCell (S := fun i => i = Z) (p := ⟨Z, oz + 1, none⟩) ha (fun _ => rfl) _) (fun _ => rfl) _
  refine ⟨_, s0, r1.fr (hF2 w1 (Fr.refl _ _)) (fun g hg h => ?_), r3, hF2 w (hF.mono (fun _ _ h => h.elim))⟩;have h : g = Z := h;have h2 := r3 g hg;have h3 := blk_lt HZ.out;omega
 have FIN := hid hfin;have hl1 := limbs_len_pos (pow_ne k);have q3 : ((w1.setCell ⟨Z, oz + 1, none⟩ (.slice Av (limbs (10 ^ k)).length cv)).setCell ⟨Z, oz, none⟩ (.bool false)).cell? ⟨Z, oz, none⟩ = some (.bool false) := by
  rw [blk_cell s0, Array.getElem?_setIfInBounds, if_pos rfl, if_pos (by simp; omega)]
 have hd : decide (0 < (limbs (10 ^ k)).length) = true := decide_eq_true (by omega);clear hfin s0 s1 hb1 hF r1 r3;generalize (limbs (10 ^ k)).length = n at *
 go_wp2_with fail;go_ret;exact ⟨rfl, FIN.out⟩
theorem intExpDoor (Z oz X ox Y oy : Nat) (cs : Array Value) (t : TypeId) (n0 : Bool) (vx vy : Value) (self : Bool) (k : Nat) (w : World) (hZ : BlkAt w Z cs t) (h0 : cs[oz]? = some (.bool n0)) (h1 : cs[oz + 1]? = some (if self then vx else .slice none 0 0))
 (x0 : w.cell? ⟨X, ox, none⟩ = some (.bool false)) (x1 : w.cell? ⟨X, ox + 1, none⟩ = some vx) (y0 : w.cell? ⟨Y, oy, none⟩ = some (.bool false)) (y1 : w.cell? ⟨Y, oy + 1, none⟩ = some vy)
 (hx : NatAt w vx [10]) (hy : NatAt w vy [k]) (hT : Thr w) (hk : 1 ≤ k) (hk' : k ≤ 100) (hXZ : (X = Z ∧ ox = oz) ∨ X ≠ Z) :
 Calls Tryz.prog 207 #[.pointer (some ⟨Z, oz, none⟩), .pointer (some ⟨X, ox, none⟩), .pointer (some ⟨Y, oy, none⟩), .pointer none] w
  fun e w' => e = .returned (.pointer (some ⟨Z, oz, none⟩)) ∧ IntRes w Z oz cs t (10 ^ k) w' := by
 have H := hid (intExp Z oz X ox Y oy cs t n0 vx vy self k w hZ h0 h1 x0 x1 y0 y1 hx hy hT hk hk' hXZ);clear hZ h0 h1 x0 x1 y0 y1 hx hy hT hXZ;go_enter Tryz.func207, Tryz.ntmps207;go_wp2_with fail;refine H.out.mono ?_;rintro e w1 ⟨rfl, r⟩;have N := hid r;clear r;go_wp2_with fail;go_ret;exact ⟨rfl, N.out⟩
set_option maxRecDepth 100000 in
set_option maxHeartbeats 2000000 in
theorem bigExp (Z oz X ox Y oy : Nat) (cs : Array Value) (t : TypeId) (n0 m0 : Bool) (vx vy : Value) (self : Bool) (k : Nat) (w : World) (hZ : BlkAt w Z cs t) (h0 : cs[oz]? = some (.bool n0)) (h1 : cs[oz + 1]? = some (if self then vx else .slice none 0 0)) (h2 : cs[oz + 2]? = some (.bool m0))
 (x0 : w.cell? ⟨X, ox, none⟩ = some (.bool false)) (x1 : w.cell? ⟨X, ox + 1, none⟩ = some vx) (y0 : w.cell? ⟨Y, oy, none⟩ = some (.bool false)) (y1 : w.cell? ⟨Y, oy + 1, none⟩ = some vy)
 (hx : NatAt w vx [10]) (hy : NatAt w vy [k]) (hT : Thr w) (hk : 1 ≤ k) (hk' : k ≤ 100) (hXZ : (X = Z ∧ ox = oz) ∨ X ≠ Z) (hYZ : Y ≠ Z) (hxZ : ∀ g, natBlk vx = some g → g ≠ Z) (hyZ : ∀ g, natBlk vy = some g → g ≠ Z) (hZ19 : 19 ≤ Z) :
 Calls Tryz.prog 178 #[.pointer (some ⟨Z, oz, none⟩), .pointer (some ⟨X, ox, none⟩), .pointer (some ⟨Y, oy, none⟩)] w
  fun e w' => e = .returned (.pointer (some ⟨Z, oz, none⟩)) ∧ IntRes w Z oz (cs.setIfInBounds (oz + 2) (.bool false)) t (10 ^ k) w' := by
 have z2 : w.cell? ⟨Z, oz + 2, none⟩ = some (.bool m0) := by rw [blk_cell hZ]; exact h2
 have f2 : w.frozen? ⟨Z, oz + 2, none⟩ = false := blk_frozen hZ _;have s2 := blk_set hZ (oz + 2) (.bool false);have hF : Fr (fun i => i = Z) w (w.setCell ⟨Z, oz + 2, none⟩ (.bool false)) := Fr.setCell (S := fun i => i = Z) (p := ⟨Z, oz + 2, none⟩) (Fr.refl _ _) (fun _ => rfl) _;have keep : ∀ (i : Nat) (u : Value), w.cell? ⟨X, ox + i, none⟩ = some u → i ≤ 1 → (w.setCell ⟨Z, oz + 2, none⟩ (.bool false)).cell? ⟨X, ox + i, none⟩ = some u := fun i u hu hi => by
  rcases hXZ with ⟨rfl, rfl⟩ | h;· rw [blk_cell s2, Array.getElem?_setIfInBounds, if_neg (by omega), ← blk_cell hZ]; exact hu
  · exact hF.cell' hu h
 have hE := intExpDoor Z oz X ox Y oy (cs.setIfInBounds (oz + 2) (.bool false)) t n0 vx vy self k (w.setCell ⟨Z, oz + 2, none⟩ (.bool false)).drew s2
  (by rw [Array.getElem?_setIfInBounds, if_neg (by omega)]; exact h0) (by rw [Array.getElem?_setIfInBounds, if_neg (by omega)]; exact h1)
  (keep 0 _ x0 (by omega)) (keep 1 _ x1 (by omega)) (hF.cell' y0 hYZ) (hF.cell' y1 hYZ) ((hx.fr hF (fun g hg h => hxZ g hg h) : NatAt (w.setCell ⟨Z, oz + 2, none⟩ (.bool false)) vx [10])) ((hy.fr hF (fun g hg h => hyZ g hg h) : NatAt (w.setCell ⟨Z, oz + 2, none⟩ (.bool false)) vy [k])) (hT.fr hF.drew (fun i hi h => by have h : i = Z := h; omega)) hk hk' hXZ
 have HE := hid hE; have HF := hid hF;have HSZ : Hid ((w.setCell ⟨Z, oz + 2, none⟩ (.bool false)).heap.size = w.heap.size) := hid (by simp);clear hE hF keep s2 hZ h0 h1 h2 x0 x1 y0 y1 hx hy hT hXZ hYZ hxZ hyZ;go_enter Tryz.func178, Tryz.ntmps178;go_wp2_with fail;go_region_with (first | (go_at_call 207; refine HE.out.mono ?_; rintro e w1 ⟨rfl, r⟩; have R := hid r; clear r));obtain ⟨v', r1, r2, r3, r4⟩ := R.out;have N := hid (show IntRes w Z oz (cs.setIfInBounds (oz + 2) (.bool false)) t (10 ^ k) w1 from ⟨v', r1, r2, fun g hg => by have := r3 g hg; exact Nat.le_trans (Nat.le_of_eq HSZ.out.symm) this, HF.out.drew.trans r4 (fun _ _ h => h)⟩);clear r1 r2 r3 r4 R;go_wp2_with fail;go_ret;exact ⟨rfl, N.out⟩
end Go.Proofs.YteokhhepnoelhaaGreatDoor
