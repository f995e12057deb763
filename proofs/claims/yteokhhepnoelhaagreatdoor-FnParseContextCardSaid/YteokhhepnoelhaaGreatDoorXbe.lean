/-
  divLarge: a row divided by a row of two to four words.
-/
import Derived.Test.YteokhhepnoelhaaGreatDoorXbd
import Derived.Test.YteokhhepnoelhaaGreatDoorXan
import Derived.Test.YteokhhepnoelhaaGreatDoorXay
set_option linter.unusedVariables false
set_option linter.unusedSimpArgs false
namespace Go.Proofs.YteokhhepnoelhaaGreatDoor
open Go.RowKit
structure NormRow (xs ys : List Nat) (s n m : Nat) (VS US : List Nat) (v1 v0 ut : Nat) : Prop where
 vl : VS.length = n
 ul : US.length = m + 1 + n
 vb : ∀ x ∈ VS, x < WB
 ub : ∀ x ∈ US, x < WB
 top : VS[n - 1]? = some v1
 nxt : VS[n - 2]? = some v0
 big : 9223372036854775808 ≤ v1
 lead : US[m + 1 + n - 1]? = some ut
 less : ut < v1
 vv : nval VS = nval ys * 2 ^ s
 uv : nval US = nval xs * 2 ^ s
theorem normRow_zero {xs ys : List Nat} {n m y1 : Nat} (hn : 2 ≤ n) (hx : xs.length = m + n) (hy : ys.length = n) (bx : ∀ x ∈ xs, x < WB) (bY : ∀ x ∈ ys, x < WB) (h1 : ys[n - 1]? = some y1) (hb : 9223372036854775808 ≤ y1) :
 ∃ v0, NormRow xs ys 0 n m ys (xs ++ [0]) y1 v0 0 := by
 refine ⟨_, hy, by rw [List.length_append, hx]; simp; omega, bY, fun x h => ?_, h1, List.getElem?_eq_getElem (by omega), hb, ?_, by omega, by rw [Nat.pow_zero, Nat.mul_one], ?_⟩
 · rcases List.mem_append.1 h with h | h
   · exact bx x h
   · rw [List.mem_singleton] at h; subst h; exact WB_pos
 · rw [List.getElem?_append_right (by omega), hx, show m + 1 + n - 1 - (m + n) = 0 by omega]; rfl
 · rw [Nat.pow_zero, Nat.mul_one];have := nval_mulAdd xs 1 0;rw [nval_take_drop (xs ++ [0]) xs.length (by simp), List.take_left, List.drop_left];simp [nval]
theorem carry_top {ys : List Nat} {n s y1 : Nat} (hn : 1 ≤ n) (hs : s ≤ 63) (hy : ys.length = n) (bY : ∀ x ∈ ys, x < WB) (h1 : ys[n - 1]? = some y1) (hlt : y1 < 2 ^ (64 - s)) : mulAddC ys (2 ^ s) 0 = 0 := by
 have h := shl_carry_at ys s (n - 1) y1 (by omega) bY h1;rw [show n - 1 + 1 = n by omega, ← hy, List.take_length] at h;rw [h];exact Nat.div_eq_of_lt hlt
theorem normRow_shift {xs ys : List Nat} {n m s y1 : Nat} (hn : 2 ≤ n) (hs1 : 1 ≤ s) (hs : s ≤ 63) (hx : xs.length = m + n) (hy : ys.length = n) (bx : ∀ x ∈ xs, x < WB) (bY : ∀ x ∈ ys, x < WB) (h1 : ys[n - 1]? = some y1)
 (hb : 9223372036854775808 ≤ y1 * 2 ^ s) (hlt : y1 < 2 ^ (64 - s)) :
 ∃ v1 v0, NormRow xs ys s n m (mulAddZ ys (2 ^ s) 0) (mulAddZ xs (2 ^ s) 0 ++ [mulAddC xs (2 ^ s) 0]) v1 v0 (mulAddC xs (2 ^ s) 0) := by
 have hc := shl_carry xs s (by omega) bx;have hp : 2 ^ s ≤ 9223372036854775808 := Nat.pow_le_pow_right (by omega) (show s ≤ 63 by omega);have hzl : (mulAddZ ys (2 ^ s) 0).length = n := by rw [mulAddZ_length, hy]
 have hv0 := mulAddZ_get ys (2 ^ s) 0 (n - 1) y1 h1;have hc0 := shl_carry (ys.take (n - 1)) s (by omega) (fun x hx => bY x (List.mem_of_mem_take hx));have hm : y1 * 2 ^ s + mulAddC (ys.take (n - 1)) (2 ^ s) 0 < WB := by
  have := Nat.mul_le_mul_right (2 ^ s) (show y1 + 1 ≤ 2 ^ (64 - s) from hlt);rw [pow_split (by omega), Nat.add_mul, Nat.one_mul] at this;omega
 rw [Nat.mod_eq_of_lt hm] at hv0;refine ⟨_, _, hzl, by rw [List.length_append, mulAddZ_length, hx]; simp; omega, mulAddZ_lt _ _ _, fun x h => ?_, hv0, List.getElem?_eq_getElem (by omega), by omega, ?_, by omega, ?_, ?_⟩
 · rcases List.mem_append.1 h with h | h
   · exact mulAddZ_lt _ _ _ x h
   · rw [List.mem_singleton] at h; subst h; rw [WB_eq]; omega
 · rw [List.getElem?_append_right (by rw [mulAddZ_length]; omega), mulAddZ_length, hx, show m + 1 + n - 1 - (m + n) = 0 by omega]; rfl
 · have h := nval_mulAdd ys (2 ^ s) 0;rw [carry_top (by omega) hs hy bY h1 hlt, nval_take_drop (mulAddZ ys (2 ^ s) 0 ++ [0]) (mulAddZ ys (2 ^ s) 0).length (by simp), List.take_left, List.drop_left] at h;simpa [nval] using h
 · rw [nval_mulAdd, Nat.add_zero]
theorem norm_quo {X Y P U V L Q : Nat} (hP : 0 < P) (hV : V = Y * P) (hU : U = X * P) (h : U = L + V * Q) (hL : L < V) : Q = X / Y ∧ L / P = X % Y := by
 subst hV hU;have hY : 0 < Y := by
  rcases Nat.eq_zero_or_pos Y with h | h;· subst h; rw [Nat.zero_mul] at hL; omega
  · exact h
 have e1 : (X * P) / (Y * P) = Q := by
  rw [h, Nat.add_mul_div_left _ _ (Nat.mul_pos hY hP), Nat.div_eq_of_lt hL, Nat.zero_add]
 have e2 : (X * P) % (Y * P) = L := by
  rw [h, Nat.add_mul_mod_self_left, Nat.mod_eq_of_lt hL]
 rw [Nat.mul_div_mul_right _ _ hP] at e1;rw [Nat.mul_mod_mul_right] at e2;exact ⟨e1.symm, by rw [← e2, Nat.mul_div_cancel _ hP]⟩
def StkB (B : Nat) (w : World) (S : Nat) : Prop := w.heap[S]? = some (.cells #[.pointer none] 260 (0, 0)) ∨ ∃ T, StkT w S T ∧ B ≤ T
def TwoRes (w : World) (vz : Value) (S X Y : Nat) (e : Ending) (w' : World) : Prop :=
 ∃ vq vr gr, e = .returned (.tuple #[vq, vr]) ∧ NatAt w' vq (limbs (X / Y)) ∧ NatAt w' vr (limbs (X % Y)) ∧ (∀ g, natBlk vq = some g → natBlk vz = some g ∨ w.heap.size ≤ g) ∧ natBlk vr = some gr ∧ w.heap.size ≤ gr ∧ natBlk vq ≠ some gr ∧
  (∃ B, w.heap.size ≤ B ∧ (∀ g, natBlk vq = some g → g < B) ∧ gr < B ∧ StkB B w' S) ∧ Fr (fun i => natBlk vz = some i ∨ i = S) w w'
set_option maxRecDepth 100000 in
set_option maxHeartbeats 4000000 in
theorem divLarge_shift (S gx cx gy cy N n m s y1 : Nat) (vz : Value) (zs xs ys : List Nat) (w : World) (hn : 2 ≤ n) (hn4 : n ≤ 4) (hN : N = m + n) (hm : m ≤ 90) (hS : w.heap[S]? = some (.cells #[.pointer none] 260 (0, 0))) (hz : NatAt w vz zs)
 (hx : ∀ (j x : Nat), xs[j]? = some x → w.cell? ⟨gx, j, none⟩ = some (.int .u64 (x : Int))) (hxl : xs.length = N) (bx : ∀ x ∈ xs, x < WB)
 (hy : ∀ (j x : Nat), ys[j]? = some x → w.cell? ⟨gy, j, none⟩ = some (.int .u64 (x : Int))) (hyl : ys.length = n) (bY : ∀ x ∈ ys, x < WB) (h1 : ys[n - 1]? = some y1) (hy1 : y1 < WB)
 (hs : 64 - blen y1 = s) (hs1 : 1 ≤ s) (hs2 : s ≤ 63) (hb : 9223372036854775808 ≤ y1 * 2 ^ s) (hlt : y1 < 2 ^ (64 - s)) (hzS : natBlk vz ≠ some S) (hT : Thr w) :
 Calls Tryz.prog 209 #[vz, .pointer (some ⟨S, 0, none⟩), .slice none 0 0, .slice (some ⟨gx, 0, none⟩) N cx, .slice (some ⟨gy, 0, none⟩) n cy] w (TwoRes w vz S (nval xs) (nval ys)) := by
 have hSl := blk_lt hS;have cy1 := hy (n - 1) y1 h1;have e1 : IntKind.i64.wrap ((N : Int) - (n : Int)) = (m : Int) := by rw [IntWalk.i64_in _ (by omega)]; omega
 have e3 : IntKind.i64.wrap ((n : Int) - 1) = ((n - 1 : Nat) : Int) := by rw [IntWalk.i64_in _ (by omega)]; omega
 have e5 : IntKind.i64.wrap ((N : Int) + 1) = (N : Int) + 1 := by rw [IntWalk.i64_in _ (by omega)]
 have e6 : IntKind.i64.wrap ((m : Int) + 1) = (m : Int) + 1 := by rw [IntWalk.i64_in _ (by omega)]
 have n1 : n - 1 < n := by omega
 have s0 : ((s : Int) == 0) = false := beq_eq_false_iff_ne.2 (by omega);have s1 : ((s : Int) != 0) = true := by simp; omega
 have n40 : ((n : Int) < 40) = True := eq_true (by omega);have HZ := hid (nlz_any y1 hy1 w);rw [hs] at HZ;have HSV := hid (stkSave S w hS);have HN := hid (stkNat4 S n (by omega) hn4 w hS);have HX := hid hx; have HY := hid hy; have HT := hid hT; have HS := hid hS; have HZS := hid hzS; have HNZ := hid hz;have hxg : ∀ j, j < N → ∃ v, w.cell? ⟨gx, j, none⟩ = some v := fun j hj => ⟨_, hx j _ (List.getElem?_eq_getElem (by omega))⟩
 have hgx : gx < w.heap.size := by obtain ⟨v, hv⟩ := hxg 0 (by omega); exact World.block_lt_of_cell? w _ hv
 have hgy : gy < w.heap.size := World.block_lt_of_cell? w _ cy1;have HNE := hid hN;clear hx hy hT hS hz hxg hzS hN;go_enter_defers Tryz.func209, Tryz.ntmps209;go_wp2_with (first | (go_at_call 242; refine HSV.out.mono ?_; rintro e w1 ⟨rfl, rfl⟩) | (go_at_call 243; refine HZ.out.mono ?_; rintro e w1 ⟨rfl, rfl⟩));refine HN.out.mono ?_;rintro e w1 ⟨gv, capv, csv, rfl, hgv, v1, v2, v3, hF1⟩;have HGV := hid hgv; have HF1 := hid hF1; have HGVL := hid v3;have HMU := hid (natMake (.slice none 0 0) [] (N + 1) w1 (NatAt.nil _) (by omega) (by have := HNE.out; omega));rw [show ((N + 1 : Nat) : Int) = (N : Int) + 1 by omega] at HMU;clear hgv hF1 v3;go_wp2_with fail;refine HMU.out.mono ?_;rintro e w2 ⟨gu, capu, csu, rfl, hgu, u1, u2, u3, hF2, u4⟩;have u5 : w1.heap.size ≤ gu := u4.resolve_left (fun h => by cases h);have HF2 := hid (HF1.out.trans hF2 (fun _ _ h => h.elim));have HGVL2 : gv < w1.heap.size := blk_lt HGV.out;have hguv : gv ≠ gu := by omega
 have HGU := hid hgu;have HGV2 := hid (hF2.blk HGV.out (fun h => h));have HLV := hid (lshVU gv capv gy cy s n csv ys w2 HGV2.out hyl v2 (fun j x hj => HF2.out.cell' (HY.out j x hj) (fun h => h)) (by have := HGVL.out; omega) bY hs1 hs2 (by omega) (by omega));rw [carry_top (by omega) hs2 hyl bY h1 hlt] at HLV;have HU5 := hid u5; have HGUV := hid hguv;clear hgu hF2 u4 u5 hguv HGVL2;go_wp2_with fail;refine HLV.out.mono ?_;rintro e w3 ⟨rfl, hqv, hF3⟩;have HQV := hid hqv;have HF3 := hid (HF2.out.trans hF3 (fun i hi h => by have h : i = gv := h; have := HGVL.out; omega));have HGU3 := hid (hF3.blk HGU.out (Ne.symm HGUV.out));have f5 : ((N : Int)).toNat = N := by omega
 have f6 : (N : Int) ≤ (capu : Int) := by omega
 have hlu : ∀ W : World, Fr NoB w3 W → Calls Tryz.prog 245 #[.slice (some ⟨gu, 0, none⟩) N capu, .slice (some ⟨gx, 0, none⟩) N cx, .int .u64 (s : Int)] W
  fun e w' => e = .returned (.int .u64 (mulAddC xs (2 ^ s) 0 : Int)) ∧ QuoAt w' gu csu (mulAddZ xs (2 ^ s) 0) 0 ∧ Fr (fun i => i = gu) W w' := fun W hW =>
  lshVU gu capu gx cx s N csu xs W (hW.blk HGU3.out (fun h => h)) hxl (by omega) (fun j x hj => hW.cell' (HF3.out.cell' (HX.out j x hj) (fun h => h)) (fun h => h)) (by have := HU5.out; have := HF1.out.size; show gx ≠ gu; omega) bx hs1 hs2 (by have := HNE.out; omega) (by have := HNE.out; omega)
 have HLU := hid hlu;clear hqv hF3 hlu HLV HMU HSV HN HZ;go_wp2_with fail;refine (HLU.out _ (Fr.refl _ _)).mono ?_;rintro e w4 ⟨rfl, hqu, hF4⟩;obtain ⟨csu4, p1, p2, p3, p4⟩ := hqu;have kN : ∃ v, csu4[N]? = some v := ⟨_, Array.getElem?_eq_getElem (by omega)⟩
 obtain ⟨vN, kN⟩ := kN;have kN4 : w4.cell? ⟨gu, N, none⟩ = some vN := (blk_cell p1 N).trans kN;have fN4 : w4.frozen? ⟨gu, N, none⟩ = false := blk_frozen p1 N;have c7 : (N : Int) < (N : Int) + 1 := by omega
 have c8 : N < N + 1 := by omega
 have P1 := hid p1;have HF4 := hid hF4;have P3 := hid p3;clear p1 p3 p4 hF4 kN HLU;go_wp2_with fail;have HN5 := hid (show ∃ csu5, (w4.setCell ⟨gu, N, none⟩ (.int .u64 (mulAddC xs (2 ^ s) 0 : Int))).heap[gu]? = some (.cells csu5 105 (0, 0)) ∧ csu5.size = csu.size ∧ RowIs csu5 (mulAddZ xs (2 ^ s) 0 ++ [mulAddC xs (2 ^ s) 0]) from by
  refine ⟨_, blk_set P1.out N _, by simp [p2], ?_⟩;intro i x hi;rw [Array.getElem?_setIfInBounds];have hl := mulAddZ_length xs (2 ^ s) 0;by_cases hiN : N = i;· subst hiN;rw [if_pos rfl, if_pos (by omega)];rw [List.getElem?_append_right (by omega), hl, hxl, Nat.sub_self] at hi;cases hi; rfl
  · rw [if_neg hiN];have hlt := (List.getElem?_eq_some_iff.1 hi).1;rw [List.length_append, hl, hxl, List.length_singleton] at hlt;rw [List.getElem?_append_left (by omega)] at hi;exact P3.out i x (Nat.zero_le _) hi)
 have HF5 := hid (HF3.out.trans (Fr.setCell (S := fun i => i = gu) (p := ⟨gu, N, none⟩) HF4.out (fun _ => rfl) (.int .u64 (mulAddC xs (2 ^ s) 0 : Int))) (fun i hi h => by have h : i = gu := h; have := HU5.out; have := HF1.out.size; omega));have HV5 := hid (show ∀ (j x : Nat), (mulAddZ ys (2 ^ s) 0)[j]? = some x → (w4.setCell ⟨gu, N, none⟩ (.int .u64 (mulAddC xs (2 ^ s) 0 : Int))).cell? ⟨gv, j, none⟩ = some (.int .u64 (x : Int)) from by
  intro j x hj;obtain ⟨c, q1, q2, q3, q4⟩ := HQV.out;have hF := Fr.setCell (S := fun i => i = gu) (p := ⟨gu, N, none⟩) HF4.out (fun _ => rfl) (.int .u64 (mulAddC xs (2 ^ s) 0 : Int));rw [blk_cell (hF.blk q1 HGUV.out)];exact q3 j x (Nat.zero_le _) hj)
 obtain ⟨t1, t0, nr⟩ := normRow_shift (m := m) hn hs1 hs2 (hxl.trans HNE.out) hyl bx bY h1 hb hlt;have NR := hid nr;clear nr kN4 fN4;clear HGU3 HQV HF3 HF4 P1 P3;generalize hw5 : w4.setCell ⟨gu, N, none⟩ (.int .u64 (mulAddC xs (2 ^ s) 0 : Int)) = w5 at *
 clear hw5;generalize mulAddC xs (2 ^ s) 0 = ut at *
 generalize hUS : mulAddZ xs (2 ^ s) 0 ++ [ut] = US at *
 clear hUS;generalize mulAddZ ys (2 ^ s) 0 = VS at *
 obtain ⟨csu5, q1, q2, q3⟩ := HN5.out;have HQ1 := hid q1; have HQ3 := hid q3;clear q1 q3 HN5;have hul : US.length = N + 1 := by rw [NR.out.ul, HNE.out]; omega
 have hgw : w.heap.size ≤ gu := by have := HU5.out; have := HF1.out.size; omega
 have hun : NatAt w5 (.slice (some ⟨gu, 0, none⟩) (N + 1) capu) US := .inr ⟨gu, capu, csu5, by rw [hul], HQ1.out, by omega, by omega, u3, fun j x hj => HQ3.out j x hj⟩;have hvz5 : NatAt w5 vz zs := HNZ.out.fr HF5.out (fun g _ h => h);have HAL := hid (alias_no vz (.slice (some ⟨gu, 0, none⟩) (N + 1) capu) zs US w5 hvz5 hun (fun g hg h => by cases h; have h5 : gu < w.heap.size := HNZ.out.lt _ hg; omega));have HGW := hid hgw;clear hun hvz5 hgw;go_wp2_with fail;refine HAL.out.mono ?_;rintro e w6 ⟨rfl, hF6⟩;have HF6 := hid hF6;have HMQ := hid (natMake vz zs (m + 1) w6 (HNZ.out.fr (HF5.out.trans hF6 (fun _ _ h => h.elim)) (fun g _ h => h)) (by omega) (by omega));rw [show ((m + 1 : Nat) : Int) = (m : Int) + 1 by omega] at HMQ;clear hF6 HAL;go_wp2_with fail;refine HMQ.out.mono ?_;rintro e w7 ⟨gq, capq, csq, rfl, hgq, r1, r2, r3, hF7, hgz⟩;have HF7 := hid (HF6.out.trans hF7 (fun _ _ h => h.elim));have HF07 := hid (HF5.out.trans HF7.out (fun _ _ h => h.elim));have g12 : w7.cell? ⟨12, 0, none⟩ = some (.int .i64 40) := (HT.out.fr HF07.out (fun _ _ h => h)).dr;have hgu5 : gu < w5.heap.size := blk_lt HQ1.out;have hgqu : gq ≠ gu := by
  rcases hgz with h | h;· have := HNZ.out.lt _ h; have := HGW.out; omega
  · have := HF6.out.size; omega
 have hgqv : gv ≠ gq := by
  rcases hgz with h | h;· have := HNZ.out.lt _ h; have := HGVL.out; omega
  · have := HF6.out.size; have := HGUV.out;have : gv < w5.heap.size := World.block_lt_of_cell? w5 _ (HV5.out _ _ NR.out.top);omega
 have hgqS : S ≠ gq := by
  rcases hgz with h | h;· intro h2; subst h2; exact HZS.out h
  · have := HF6.out.size; have := HF5.out.size; omega
 have ht1 : t1 < WB := NR.out.vb t1 (List.mem_of_getElem? NR.out.top);have hbl : blen t1 = 64 := blen_eq (b := 63) (by have := NR.out.big; omega) (by have := ht1; rw [WB_eq] at this; omega);have hrec : RecOk t1 (recN t1) := recip_any t1 0 t1 (by have := NR.out.big; omega) ht1 (by rw [hbl]) (by rw [Nat.pow_zero, Nat.mul_one]) NR.out.big ht1 (by omega);have HDB := hid (divBasic gq capq gu capu gv capv S csq csu5 US VS n (m + 1) t1 t0 ut 0 w7 hn hn4 (by omega) (by omega) (HF7.out.blk HQ1.out (fun h => h)) NR.out.ul (by have := HNE.out; omega) HQ3.out (by have := HNE.out; omega) hgq (by omega)
  (fun j x hj => HF7.out.cell' (HV5.out j x hj) (fun h => h)) NR.out.vl hgqu HGUV.out hgqv (by have := HGW.out; omega) hgqS (by have := HGVL.out; omega) (HF07.out.blk HS.out (fun h => h)) NR.out.ub NR.out.vb NR.out.top NR.out.nxt NR.out.big NR.out.lead NR.out.less hrec)
 rw [show m + 1 + n = N + 1 by have := HNE.out; omega] at HDB;have HGZ := hid hgz; have HGQ7 := hid (blk_lt hgq);clear hgq hF7 hgz HMQ hrec;go_wp2_with fail;refine HDB.out.mono ?_;rintro e w8 ⟨rfl, csu8, csq8, L, Q, gt, b1, b2, b3, b4, b5, b6, b7, b8, b9, b10, b11, b12, b13, b14⟩;have hP : 0 < 2 ^ s := Nat.pos_of_ne_zero (by intro h; have := Nat.one_le_two_pow (n := s); omega);obtain ⟨k1, k2⟩ := norm_quo hP NR.out.vv NR.out.uv b12 b11;have hqn : NatAt w8 (.slice (some ⟨gq, 0, none⟩) (m + 1) capq) Q := .inr ⟨gq, capq, csq8, by rw [b9], b3, by omega, by omega, r3, fun j x hj => b8 j x hj⟩;have HQN := hid (natNorm _ _ _ hqn);have hnq : normL Q = limbs (nval xs / nval ys) := by rw [normL_limbs Q b10, k1]
 have hL1 : L.length = N + 1 := by rw [b6]; have := HNE.out; omega
 have hsh : ∀ x ∈ shrZ L s, x < WB := shrZ_lt L s (by omega) b7;have HRS := hid (rshVU gu capu capu s (N + 1) csu8 L w8 b1 hL1 (by omega) b5 b7 hs1 hs2 (by omega) (by have := HNE.out; omega));have hnr : normL (shrZ L s) = limbs (nval xs % nval ys) := by rw [normL_limbs _ hsh, nval_shrZ L s (by omega), k2]
 have HNR := hid hnr;clear hsh hnr;have HNQ := hid hnq; have B1 := hid b1; have B3 := hid b3; have B5 := hid b5; have B7 := hid b7; have B13 := hid b13; have B14 := hid b14; have K2 := hid k2;clear hnq b1 b3 b5 b7 b8 b10 b11 b12 b13 b14 k1 k2 hqn HDB g12;go_wp2_with fail;refine HQN.out.mono ?_;rintro e w8' ⟨rfl, vq, rfl, n1', n2'⟩;rw [HNQ.out] at n1';have N1 := hid n1'; have N2 := hid n2';clear n1' n2' HQN;go_wp2_with fail;refine HRS.out.mono ?_;rintro e w9 ⟨⟨rr, rfl⟩, ⟨csu9, z1, z2, z3, z4⟩, hF9⟩;have hrn : NatAt w9 (.slice (some ⟨gu, 0, none⟩) (N + 1) capu) (shrZ L s) := .inr ⟨gu, capu, csu9, by rw [shrZ_length, hL1], z1, by omega, by rw [shrZ_length, hL1]; omega, u3, fun j x hj => z3 j x (by have := (List.getElem?_eq_some_iff.1 hj).1; rw [shrZ_length, hL1] at this; exact this) hj⟩;have HRN := hid (natNorm _ _ _ hrn);have hst9 : StkS w7 w9 S gt := B13.out.fr hF9 (by show S ≠ gu; have := HGW.out; omega) (fun T hT _ h => by have h : T = gu := h; have := HF7.out.size; omega);have HST9 := hid hst9; have HF9 := hid hF9;clear hrn hst9 hF9 z1 z3 z4 HRS;go_wp2_with fail;refine HRN.out.mono ?_;rintro e w9' ⟨rfl, vr, rfl, m1', m2'⟩;rw [HNR.out] at m1';have M1 := hid m1'; have M2 := hid m2';clear m1' m2' HRN;go_wp2_with fail;refine leaves_cons (f := 241) (args := #[.pointer (some ⟨S, 0, none⟩), .int .i64 0]) (by simp) (by simp [go_sem]) ?_;refine (restore_any S gt .returning w7 w9 (by have := HF07.out.size; omega) HST9.out).mono ?_;rintro e u' w'' ⟨rfl, rfl, r1', r2'⟩;refine ⟨_, results_tmp2 rfl _ _ _, ?_⟩;have F1 : Fr (fun i => i = gu ∨ i = gq ∨ i = S ∨ w7.heap.size ≤ i) w7 w'' := ((B14.out.mono (fun i _ h => by rcases h with h | h | h; exact .inl h; exact .inr (.inl h); exact .inr (.inr (.inl h)))).trans HF9.out (fun i hi h => .inl h)).trans r2' (fun i hi h => .inr (.inr (.inr h)));have F0 : Fr (fun i => natBlk vz = some i ∨ i = S) w w'' := (HF07.out.mono (fun _ _ h => h.elim)).trans F1 (fun i hi h => by
  rcases h with h | h | h | h;· have := HGW.out; omega
  · subst h;rcases HGZ.out with h2 | h2
    · exact .inl h2
    · have := HF6.out.size; have := HF5.out.size; omega
  · exact .inr h
  · have := HF07.out.size; omega)
 have hq7 : gq < w7.heap.size := by
  have e1 : w7.heap.size ≤ w8.heap.size := B14.out.size;rcases HGZ.out with h2 | h2;· have := HNZ.out.lt _ h2; have := HF07.out.size; omega
  · exact HGQ7.out
 have hu7 : gu < w7.heap.size := by have := HF7.out.size; omega
 refine ⟨vq, vr, gu, rfl, ?_, ?_, ?_, M2.out, HGW.out, ?_, ⟨w7.heap.size, by have := HF07.out.size; omega, fun g hg => by rw [N2.out] at hg; cases hg; exact hq7, hu7, ?_⟩, F0⟩
 · refine (N1.out.fr HF9.out (fun g hg h => ?_)).fr r2' (fun g hg h => ?_)
   · rw [N2.out] at hg; cases hg; exact hgqu h
   · rw [N2.out] at hg; cases hg; have h : w7.heap.size ≤ gq := h; omega
 · refine M1.out.fr r2' (fun g hg h => ?_);rw [M2.out] at hg; cases hg; have h : w7.heap.size ≤ gu := h; omega
 · intro g hg;rw [N2.out] at hg; cases hg;rcases HGZ.out with h2 | h2
   · exact .inl h2
   · exact .inr (show w.heap.size ≤ gq by have := HF6.out.size; have := HF5.out.size; omega)
 · rw [N2.out];intro h; cases h; exact hgqu rfl
 · rcases r1' with h | ⟨T, h1', h2', h3'⟩
   · exact .inl h
   · exact .inr ⟨T, h1', h2'⟩
set_option maxRecDepth 100000 in
set_option maxHeartbeats 4000000 in
theorem divLarge_zero (S gx cx gy cy N n m y1 : Nat) (vz : Value) (zs xs ys : List Nat) (w : World) (hn : 2 ≤ n) (hn4 : n ≤ 4) (hN : N = m + n) (hm : m ≤ 90) (hS : w.heap[S]? = some (.cells #[.pointer none] 260 (0, 0))) (hz : NatAt w vz zs)
 (hx : ∀ (j x : Nat), xs[j]? = some x → w.cell? ⟨gx, j, none⟩ = some (.int .u64 (x : Int))) (hxl : xs.length = N) (bx : ∀ x ∈ xs, x < WB)
 (hy : ∀ (j x : Nat), ys[j]? = some x → w.cell? ⟨gy, j, none⟩ = some (.int .u64 (x : Int))) (hyl : ys.length = n) (bY : ∀ x ∈ ys, x < WB) (h1 : ys[n - 1]? = some y1) (hy1 : y1 < WB)
 (hs : 64 - blen y1 = 0) (hb : 9223372036854775808 ≤ y1) (hzS : natBlk vz ≠ some S) (hT : Thr w) :
 Calls Tryz.prog 209 #[vz, .pointer (some ⟨S, 0, none⟩), .slice none 0 0, .slice (some ⟨gx, 0, none⟩) N cx, .slice (some ⟨gy, 0, none⟩) n cy] w (TwoRes w vz S (nval xs) (nval ys)) := by
 have hSl := blk_lt hS;have cy1 := hy (n - 1) y1 h1;have e1 : IntKind.i64.wrap ((N : Int) - (n : Int)) = (m : Int) := by rw [IntWalk.i64_in _ (by omega)]; omega
 have e3 : IntKind.i64.wrap ((n : Int) - 1) = ((n - 1 : Nat) : Int) := by rw [IntWalk.i64_in _ (by omega)]; omega
 have e5 : IntKind.i64.wrap ((N : Int) + 1) = (N : Int) + 1 := by rw [IntWalk.i64_in _ (by omega)]
 have e6 : IntKind.i64.wrap ((m : Int) + 1) = (m : Int) + 1 := by rw [IntWalk.i64_in _ (by omega)]
 have n1 : n - 1 < n := by omega
 have n40 : ((n : Int) < 40) = True := eq_true (by omega);have HZ := hid (nlz_any y1 hy1 w);rw [hs] at HZ;have HSV := hid (stkSave S w hS);have HN := hid (stkNat4 S n (by omega) hn4 w hS);have HX := hid hx; have HY := hid hy; have HT := hid hT; have HS := hid hS; have HZS := hid hzS; have HNZ := hid hz;have hxg : ∀ j, j < N → ∃ v, w.cell? ⟨gx, j, none⟩ = some v := fun j hj => ⟨_, hx j _ (List.getElem?_eq_getElem (by omega))⟩
 have hgx : gx < w.heap.size := by obtain ⟨v, hv⟩ := hxg 0 (by omega); exact World.block_lt_of_cell? w _ hv
 have hgy : gy < w.heap.size := World.block_lt_of_cell? w _ cy1;have HNE := hid hN;clear hx hy hT hS hz hxg hzS hN;go_enter_defers Tryz.func209, Tryz.ntmps209;go_wp2_with (first | (go_at_call 242; refine HSV.out.mono ?_; rintro e w1 ⟨rfl, rfl⟩) | (go_at_call 243; refine HZ.out.mono ?_; rintro e w1 ⟨rfl, rfl⟩));refine HN.out.mono ?_;rintro e w1 ⟨gv, capv, csv, rfl, hgv, v1, v2, v3, hF1⟩;have HGV := hid hgv; have HF1 := hid hF1; have HGVL := hid v3;have HMU := hid (natMake (.slice none 0 0) [] (N + 1) w1 (NatAt.nil _) (by omega) (by have := HNE.out; omega));rw [show ((N + 1 : Nat) : Int) = (N : Int) + 1 by omega] at HMU;clear hgv hF1 v3;go_wp2_with fail;refine HMU.out.mono ?_;rintro e w2 ⟨gu, capu, csu, rfl, hgu, u1, u2, u3, hF2, u4⟩;have u5 : w1.heap.size ≤ gu := u4.resolve_left (fun h => by cases h);have HF2 := hid (HF1.out.trans hF2 (fun _ _ h => h.elim));have HGVL2 : gv < w1.heap.size := blk_lt HGV.out;have hguv : gv ≠ gu := by omega
 have HGU := hid hgu;have HGV2 := hid (hF2.blk HGV.out (fun h => h));have HU5 := hid u5; have HGUV := hid hguv;have HF2b := hid hF2;clear hgu hF2 u4 u5 hguv HGVL2;have hcV : ∀ (j : Nat) (u : Value), (u64s ys)[j]? = some u → w2.cell? ((⟨gy, 0, none⟩ : Addr).add j) = some u := fun j u hj => by
  rw [add_plain, Nat.zero_add];rw [u64s_get] at hj;obtain ⟨x, hx, rfl⟩ := Option.map_eq_some_iff.1 hj;exact HF2.out.cell' (HY.out j x hx) (fun h => h)
 obtain ⟨t1, t2⟩ := list_take_drop (cs := u64s ys) (cur := csv) (by rw [u64s_length]; omega);have hV3 : (w2.setRow gv (u64s ys ++ csv.toList.drop (u64s ys).length).toArray).heap[gv]? = some (.cells (u64s ys ++ csv.toList.drop (u64s ys).length).toArray 105 (0, 0)) := setRow_heap w2 gv _ _ _ _ HGV2.out;have hF3 : Fr (fun i => i = gv) w2 (w2.setRow gv (u64s ys ++ csv.toList.drop (u64s ys).length).toArray) := Fr.setRow (S := fun i => i = gv) (Fr.refl _ _) (fun _ => rfl) _;have HCV := hid hcV; have T1 := hid t1; have HV3 := hid hV3; have HF3' := hid hF3;have HF3 := hid (HF2.out.trans hF3 (fun i hi h => by have h : i = gv := h; have := HGVL.out; omega));clear hcV t1 t2 hV3 hF3;have C1 : Hid ((u64s ys).length = Nat.min n n) := hid (by rw [u64s_length, hyl]; exact (Nat.min_self _).symm);have C2 : Hid (0 + (u64s ys).length ≤ csv.size) := hid (by rw [u64s_length]; omega);have H1C : ∀ xs : List Nat, ∀ u ∈ u64s xs, u.oneCell' = true := fun xs u hu => by
  obtain ⟨x, _, rfl⟩ := List.mem_map.1 hu;rfl
 have H1C := hid H1C;have f5 : ((N : Int)).toNat = N := by omega
 have f6 : (N : Int) ≤ (capu : Int) := by omega
 have c7 : (N : Int) < (N : Int) + 1 := by omega
 have c8 : N < N + 1 := by omega
 clear HMU HSV HN HZ;generalize hw3 : w2.setRow gv (u64s ys ++ csv.toList.drop (u64s ys).length).toArray = w3 at *
 have HGU3 := hid (HF3'.out.blk HGU.out (Ne.symm HGUV.out));have hcU : ∀ (j : Nat) (u : Value), (u64s xs)[j]? = some u → w3.cell? ((⟨gx, 0, none⟩ : Addr).add j) = some u := fun j u hj => by
  rw [add_plain, Nat.zero_add];rw [u64s_get] at hj;obtain ⟨x, hx, rfl⟩ := Option.map_eq_some_iff.1 hj;exact HF3.out.cell' (HX.out j x hx) (fun h => h)
 obtain ⟨t3, t4⟩ := list_take_drop (cs := u64s xs) (cur := csu) (by rw [u64s_length]; omega);have hU4 : (w3.setRow gu (u64s xs ++ csu.toList.drop (u64s xs).length).toArray).heap[gu]? = some (.cells (u64s xs ++ csu.toList.drop (u64s xs).length).toArray 105 (0, 0)) := setRow_heap w3 gu _ _ _ _ HGU3.out;have hF4 : Fr (fun i => i = gu) w3 (w3.setRow gu (u64s xs ++ csu.toList.drop (u64s xs).length).toArray) := Fr.setRow (S := fun i => i = gu) (Fr.refl _ _) (fun _ => rfl) _;have HCU := hid hcU; have T3 := hid t3; have P1 := hid hU4; have HF4 := hid hF4;have C3 : Hid ((u64s xs).length = Nat.min N N) := hid (by rw [u64s_length, hxl]; exact (Nat.min_self _).symm);have C4 : Hid (0 + (u64s xs).length ≤ csu.size) := hid (by rw [u64s_length]; omega);generalize hcs : (u64s xs ++ csu.toList.drop (u64s xs).length).toArray = csu4 at *
 have kN : ∃ v, csu4[N]? = some v := ⟨_, Array.getElem?_eq_getElem (by omega)⟩
 obtain ⟨vN, kN⟩ := kN;have kN4 : (w3.setRow gu csu4).cell? ⟨gu, N, none⟩ = some vN := (blk_cell P1.out N).trans kN;have fN4 : (w3.setRow gu csu4).frozen? ⟨gu, N, none⟩ = false := blk_frozen P1.out N;clear hcU t3 hU4 hF4 kN;have HW3 := hid hw3; have HCS := hid hcs;clear hw3 hcs;go_wp2_with (first | (refine wpList_copy_own rfl (.tmp 41) (.tmp 42) 66 66 rfl 105 Tryz.underlying66 Tryz.size105 gv 0 n capv ⟨gy, 0, none⟩ n cy rfl rfl csv 105 HGV2.out (u64s ys) C1.out HCV.out C2.out (H1C.out _) ?_; rw [List.take_zero, List.nil_append, Nat.zero_add, HW3.out]) | (refine wpList_copy_own rfl (.tmp 47) (.tmp 48) 66 66 rfl 105 Tryz.underlying66 Tryz.size105 gu 0 N capu ⟨gx, 0, none⟩ N cx rfl rfl csu 105 HGU3.out (u64s xs) C3.out HCU.out C4.out (H1C.out _) ?_; rw [List.take_zero, List.nil_append, Nat.zero_add, HCS.out]));have HN5 := hid (show ∃ csu5, ((w3.setRow gu csu4).setCell ⟨gu, N, none⟩ (.int .u64 0)).heap[gu]? = some (.cells csu5 105 (0, 0)) ∧ csu5.size = csu.size ∧ RowIs csu5 (xs ++ [0]) from by
  refine ⟨_, blk_set P1.out N _, by rw [Array.size_setIfInBounds]; omega, ?_⟩;intro i x hi;rw [Array.getElem?_setIfInBounds];by_cases hiN : N = i;· subst hiN;rw [if_pos rfl, if_pos (by omega)];rw [List.getElem?_append_right (by omega), hxl, Nat.sub_self] at hi;cases hi; rfl
  · rw [if_neg hiN];have hlt := (List.getElem?_eq_some_iff.1 hi).1;rw [List.length_append, hxl, List.length_singleton] at hlt;rw [List.getElem?_append_left (by omega)] at hi;exact T3.out i _ (by rw [u64s_get, hi]; rfl))
 have HF5 := hid (HF3.out.trans (Fr.setCell (S := fun i => i = gu) (p := ⟨gu, N, none⟩) HF4.out (fun _ => rfl) (.int .u64 0)) (fun i hi h => by have h : i = gu := h; have := HU5.out; have := HF1.out.size; omega));have HV5 := hid (show ∀ (j x : Nat), ys[j]? = some x → ((w3.setRow gu csu4).setCell ⟨gu, N, none⟩ (.int .u64 0)).cell? ⟨gv, j, none⟩ = some (.int .u64 (x : Int)) from by
  intro j x hj;have hF := Fr.setCell (S := fun i => i = gu) (p := ⟨gu, N, none⟩) HF4.out (fun _ => rfl) (.int .u64 0);rw [blk_cell (hF.blk HV3.out HGUV.out)];exact T1.out j _ (by rw [u64s_get, hj]; rfl))
 obtain ⟨t0, nr⟩ := normRow_zero (m := m) hn (hxl.trans HNE.out) hyl bx bY h1 hb;have NR := hid nr;clear nr kN4 fN4;clear HGU3 HF3 HF3' HF4 P1 T1 T3 HV3 HW3 HCS HCV HCU C1 C2 C3 C4 H1C;generalize hw5 : (w3.setRow gu csu4).setCell ⟨gu, N, none⟩ (.int .u64 0) = w5 at *
 clear hw5;generalize hUS : xs ++ [0] = US at *
 clear hUS;obtain ⟨csu5, q1, q2, q3⟩ := HN5.out;have HQ1 := hid q1; have HQ3 := hid q3;clear q1 q3 HN5;have hul : US.length = N + 1 := by rw [NR.out.ul, HNE.out]; omega
 have hgw : w.heap.size ≤ gu := by have := HU5.out; have := HF1.out.size; omega
 have hun : NatAt w5 (.slice (some ⟨gu, 0, none⟩) (N + 1) capu) US := .inr ⟨gu, capu, csu5, by rw [hul], HQ1.out, by omega, by omega, u3, fun j x hj => HQ3.out j x hj⟩;have hvz5 : NatAt w5 vz zs := HNZ.out.fr HF5.out (fun g _ h => h);have HAL := hid (alias_no vz (.slice (some ⟨gu, 0, none⟩) (N + 1) capu) zs US w5 hvz5 hun (fun g hg h => by cases h; have h5 : gu < w.heap.size := HNZ.out.lt _ hg; omega));have HGW := hid hgw;clear hun hvz5 hgw;go_wp2_with fail;refine HAL.out.mono ?_;rintro e w6 ⟨rfl, hF6⟩;have HF6 := hid hF6;have HMQ := hid (natMake vz zs (m + 1) w6 (HNZ.out.fr (HF5.out.trans hF6 (fun _ _ h => h.elim)) (fun g _ h => h)) (by omega) (by omega));rw [show ((m + 1 : Nat) : Int) = (m : Int) + 1 by omega] at HMQ;clear hF6 HAL;go_wp2_with fail;refine HMQ.out.mono ?_;rintro e w7 ⟨gq, capq, csq, rfl, hgq, r1, r2, r3, hF7, hgz⟩;have HF7 := hid (HF6.out.trans hF7 (fun _ _ h => h.elim));have HF07 := hid (HF5.out.trans HF7.out (fun _ _ h => h.elim));have g12 : w7.cell? ⟨12, 0, none⟩ = some (.int .i64 40) := (HT.out.fr HF07.out (fun _ _ h => h)).dr;have hgu5 : gu < w5.heap.size := blk_lt HQ1.out;have hgqu : gq ≠ gu := by
  rcases hgz with h | h;· have := HNZ.out.lt _ h; have := HGW.out; omega
  · have := HF6.out.size; omega
 have hgqv : gv ≠ gq := by
  rcases hgz with h | h;· have := HNZ.out.lt _ h; have := HGVL.out; omega
  · have := HF6.out.size; have := HGUV.out;have : gv < w5.heap.size := World.block_lt_of_cell? w5 _ (HV5.out _ _ h1);omega
 have hgqS : S ≠ gq := by
  rcases hgz with h | h;· intro h2; subst h2; exact HZS.out h
  · have := HF6.out.size; have := HF5.out.size; omega
 have ht1 : y1 < WB := NR.out.vb y1 (List.mem_of_getElem? NR.out.top);have hbl : blen y1 = 64 := blen_eq (b := 63) (by have := NR.out.big; omega) (by have := ht1; rw [WB_eq] at this; omega);have hrec : RecOk y1 (recN y1) := recip_any y1 0 y1 (by have := NR.out.big; omega) ht1 (by rw [hbl]) (by rw [Nat.pow_zero, Nat.mul_one]) NR.out.big ht1 (by omega);have HDB := hid (divBasic gq capq gu capu gv capv S csq csu5 US ys n (m + 1) y1 t0 0 0 w7 hn hn4 (by omega) (by omega) (HF7.out.blk HQ1.out (fun h => h)) NR.out.ul (by have := HNE.out; omega) HQ3.out (by have := HNE.out; omega) hgq (by omega)
  (fun j x hj => HF7.out.cell' (HV5.out j x hj) (fun h => h)) NR.out.vl hgqu HGUV.out hgqv (by have := HGW.out; omega) hgqS (by have := HGVL.out; omega) (HF07.out.blk HS.out (fun h => h)) NR.out.ub NR.out.vb NR.out.top NR.out.nxt NR.out.big NR.out.lead NR.out.less hrec)
 rw [show m + 1 + n = N + 1 by have := HNE.out; omega] at HDB;have HGZ := hid hgz; have HGQ7 := hid (blk_lt hgq);clear hgq hF7 hgz HMQ hrec;go_wp2_with fail;refine HDB.out.mono ?_;rintro e w8 ⟨rfl, csu8, csq8, L, Q, gt, b1, b2, b3, b4, b5, b6, b7, b8, b9, b10, b11, b12, b13, b14⟩;have hP : 0 < 2 ^ 0 := Nat.pos_of_ne_zero (by intro h; have := Nat.one_le_two_pow (n := 0); omega);obtain ⟨k1, k2⟩ := norm_quo hP NR.out.vv NR.out.uv b12 b11;have hqn : NatAt w8 (.slice (some ⟨gq, 0, none⟩) (m + 1) capq) Q := .inr ⟨gq, capq, csq8, by rw [b9], b3, by omega, by omega, r3, fun j x hj => b8 j x hj⟩;have HQN := hid (natNorm _ _ _ hqn);have hnq : normL Q = limbs (nval xs / nval ys) := by rw [normL_limbs Q b10, k1]
 have hL1 : L.length = N + 1 := by rw [b6]; have := HNE.out; omega
 have hnr : normL L = limbs (nval xs % nval ys) := by rw [normL_limbs L b7, ← k2, Nat.pow_zero, Nat.div_one]
 have hrn : NatAt w8 (.slice (some ⟨gu, 0, none⟩) (N + 1) capu) L := .inr ⟨gu, capu, csu8, by rw [hL1], b1, by omega, by omega, u3, fun j x hj => b5 j x hj⟩;have HRN := hid (natNorm _ _ _ hrn);have HNR := hid hnr; have HST9 := hid b13;clear hnr hrn;have HNQ := hid hnq; have B1 := hid b1; have B3 := hid b3; have B5 := hid b5; have B7 := hid b7; have B13 := hid b13; have B14 := hid b14; have K2 := hid k2;clear hnq b1 b3 b5 b7 b8 b10 b11 b12 b13 b14 k1 k2 hqn HDB g12;go_wp2_with fail;refine HQN.out.mono ?_;rintro e w8' ⟨rfl, vq, rfl, n1', n2'⟩;rw [HNQ.out] at n1';have N1 := hid n1'; have N2 := hid n2';clear n1' n2' HQN;go_wp2_with fail;refine HRN.out.mono ?_;rintro e w9' ⟨rfl, vr, rfl, m1', m2'⟩;rw [HNR.out] at m1';have M1 := hid m1'; have M2 := hid m2';clear m1' m2' HRN;go_wp2_with fail;refine leaves_cons (f := 241) (args := #[.pointer (some ⟨S, 0, none⟩), .int .i64 0]) (by simp) (by simp [go_sem]) ?_;refine (restore_any S gt .returning w7 w8 (by have := HF07.out.size; omega) HST9.out).mono ?_;rintro e u' w'' ⟨rfl, rfl, r1', r2'⟩;refine ⟨_, results_tmp2 rfl _ _ _, ?_⟩;have F1 : Fr (fun i => i = gu ∨ i = gq ∨ i = S ∨ w7.heap.size ≤ i) w7 w'' := (B14.out.mono (fun i _ h => by rcases h with h | h | h; exact .inl h; exact .inr (.inl h); exact .inr (.inr (.inl h)))).trans r2' (fun i hi h => .inr (.inr (.inr h)));have F0 : Fr (fun i => natBlk vz = some i ∨ i = S) w w'' := (HF07.out.mono (fun _ _ h => h.elim)).trans F1 (fun i hi h => by
  rcases h with h | h | h | h;· have := HGW.out; omega
  · subst h;rcases HGZ.out with h2 | h2
    · exact .inl h2
    · have := HF6.out.size; have := HF5.out.size; omega
  · exact .inr h
  · have := HF07.out.size; omega)
 have hq7 : gq < w7.heap.size := by
  have e1 : w7.heap.size ≤ w8.heap.size := B14.out.size;rcases HGZ.out with h2 | h2;· have := HNZ.out.lt _ h2; have := HF07.out.size; omega
  · exact HGQ7.out
 have hu7 : gu < w7.heap.size := by have := HF7.out.size; omega
 refine ⟨vq, vr, gu, rfl, ?_, ?_, ?_, M2.out, HGW.out, ?_, ⟨w7.heap.size, by have := HF07.out.size; omega, fun g hg => by rw [N2.out] at hg; cases hg; exact hq7, hu7, ?_⟩, F0⟩
 · refine (N1.out.fr (Fr.refl NoB _) (fun g hg h => ?_)).fr r2' (fun g hg h => ?_)
   · rw [N2.out] at hg; cases hg; exact h
   · rw [N2.out] at hg; cases hg; have h : w7.heap.size ≤ gq := h; omega
 · refine M1.out.fr r2' (fun g hg h => ?_);rw [M2.out] at hg; cases hg; have h : w7.heap.size ≤ gu := h; omega
 · intro g hg;rw [N2.out] at hg; cases hg;rcases HGZ.out with h2 | h2
   · exact .inl h2
   · exact .inr (show w.heap.size ≤ gq by have := HF6.out.size; have := HF5.out.size; omega)
 · rw [N2.out];intro h; cases h; exact hgqu rfl
 · rcases r1' with h | ⟨T, h1', h2', h3'⟩
   · exact .inl h
   · exact .inr ⟨T, h1', h2'⟩
theorem divLarge (S gx cx gy cy N n m y1 : Nat) (vz : Value) (zs xs ys : List Nat) (w : World) (hn : 2 ≤ n) (hn4 : n ≤ 4) (hN : N = m + n) (hm : m ≤ 90) (hS : w.heap[S]? = some (.cells #[.pointer none] 260 (0, 0))) (hz : NatAt w vz zs)
 (hx : ∀ (j x : Nat), xs[j]? = some x → w.cell? ⟨gx, j, none⟩ = some (.int .u64 (x : Int))) (hxl : xs.length = N) (bx : ∀ x ∈ xs, x < WB)
 (hy : ∀ (j x : Nat), ys[j]? = some x → w.cell? ⟨gy, j, none⟩ = some (.int .u64 (x : Int))) (hyl : ys.length = n) (bY : ∀ x ∈ ys, x < WB) (h1 : ys[n - 1]? = some y1) (h0 : 0 < y1) (hzS : natBlk vz ≠ some S) (hT : Thr w) :
 Calls Tryz.prog 209 #[vz, .pointer (some ⟨S, 0, none⟩), .slice none 0 0, .slice (some ⟨gx, 0, none⟩) N cx, .slice (some ⟨gy, 0, none⟩) n cy] w (TwoRes w vz S (nval xs) (nval ys)) := by
 have hy1 := bY y1 (List.mem_of_getElem? h1);obtain ⟨s, d, hs, hd, hd1, hd2, hs2⟩ := norm_word h0 hy1;by_cases hs0 : s = 0;· subst hs0;rw [Nat.pow_zero, Nat.mul_one] at hd;subst hd;exact divLarge_zero S gx cx gy cy N n m y1 vz zs xs ys w hn hn4 hN hm hS hz hx hxl bx hy hyl bY h1 hy1 hs hd1 hzS hT
 · subst hd;refine divLarge_shift S gx cx gy cy N n m s y1 vz zs xs ys w hn hn4 hN hm hS hz hx hxl bx hy hyl bY h1 hy1 hs (by omega) hs2 hd1 ?_ hzS hT;have : y1 * 2 ^ s < 2 ^ (64 - s) * 2 ^ s := by rw [pow_split (by omega)]; exact hd2
   exact Nat.lt_of_mul_lt_mul_right this
def DivBoth (w : World) (vz vz2 : Value) (X Y : Nat) (e : Ending) (w' : World) : Prop :=
 ∃ vq vr, e = .returned (.tuple #[vq, vr]) ∧ NatAt w' vq (limbs (X / Y)) ∧ NatAt w' vr (limbs (X % Y)) ∧ Fr (fun i => natBlk vz = some i ∨ natBlk vz2 = some i) w w' ∧
  (∀ g, natBlk vq = some g → natBlk vz = some g ∨ w.heap.size ≤ g) ∧ (∀ g, natBlk vr = some g → natBlk vz2 = some g ∨ w.heap.size ≤ g) ∧ (∀ g, natBlk vq = some g → natBlk vr ≠ some g)
set_option maxRecDepth 100000 in
set_option maxHeartbeats 1000000 in
theorem natDivOne (vz vz2 vx vy : Value) (zs zs2 : List Nat) (X Y : Nat) (w : World) (hz : NatAt w vz zs) (hz2 : NatAt w vz2 zs2) (hne : ∀ g, natBlk vz = some g → natBlk vz2 ≠ some g) (hx : NatAt w vx (limbs X)) (hy : NatAt w vy (limbs Y))
 (hY : 2 ≤ Y) (hY' : Y < WB) (hl : (limbs X).length ≤ 900) : Calls Tryz.prog 179 #[vz, .pointer none, vz2, vx, vy] w (DivBoth w vz vz2 X Y) := by
 rw [limbs_small (by omega) hY'] at hy;obtain ⟨gy, cy, rfl, hcy, hcap, hgy, hcm, _⟩ := hy.cell (by simp);have cy0 := hcy 0 Y rfl;rw [show [Y].length = 1 from rfl] at *
 obtain ⟨rec, h1, h2, h3⟩ := word_divides Y (by omega) hY';have HD := hid (natDivW vz vx zs X Y rec w hz hx hY hY' h1 h2 h3 hl);have HZ := hid hz; have HZ2 := hid hz2; have HNE := hid hne;have hm : X % Y < WB := Nat.lt_trans (Nat.mod_lt _ (by omega)) hY';have FIN : ∀ v' w1 e w2, NatAt w1 v' (limbs (X / Y)) → Fr (fun i => natBlk vz = some i) w w1 → (∀ g, natBlk v' = some g → natBlk vz = some g ∨ w.heap.size ≤ g) → NatRes w1 vz2 (X % Y) (.returned e) w2 → DivBoth w vz vz2 X Y (.returned (.tuple #[v', e])) w2 := by
  rintro v' w1 e w2 a1 a2 a3 ⟨u, hu, b1, b2, b3⟩;cases hu;refine ⟨v', e, rfl, a1.fr b2 (fun g hg h => ?_), b1, (a2.mono (fun i _ h => .inl h)).trans b2 (fun i hi h => .inr h), a3, fun g hg => ?_, fun g hg h => ?_⟩
  · rcases a3 g hg with h' | h'
    · exact HNE.out g h' h
    · have := HZ2.out.lt _ h; omega
  · rcases b3 g hg with h | h
    · exact .inl h
    · exact .inr (by have := a2.size; omega)
  · rcases b3 g h with h' | h'
    · rcases a3 g hg with h2 | h2
      · exact HNE.out g h2 h'
      · have := HZ2.out.lt _ h'; omega
    · have := a1.lt _ hg; omega
 have FIN := hid FIN;clear hz hz2 hne hx hy hcy h1 h2;obtain ⟨r, hr⟩ : ∃ r, X % Y = r := ⟨_, rfl⟩
 rw [hr] at hm FIN;have HR := hid hr;clear hr;go_enter_defers Tryz.func179, Tryz.ntmps179;go_wp2_with fail;refine HD.out.mono ?_;clear HD;rintro e w1 ⟨v', he, a1, a2, a3⟩;rw [HR.out] at he;subst he;have HS := hid (natSetWord vz2 zs2 r hm w1 (HZ2.out.fr a2 (fun g hg h => HNE.out g h hg)));have A1 := hid a1; have A2 := hid a2; have A3 := hid a3;clear a1 a2 a3;go_wp2_with fail;refine HS.out.mono ?_;rintro e w2 hr;obtain ⟨u, rfl, b⟩ := hr;have N := hid (FIN.out v' w1 u w2 A1.out A2.out A3.out ⟨u, rfl, b⟩);clear b;go_wp2_with fail;refine ⟨_, results_tmp2 rfl _ _ _, ?_⟩;exact N.out
theorem free_any (S B : Nat) (u : FrameMode) (w : World) (hS : StkB B w S) :
 CallsD Tryz.prog 183 #[.pointer (some ⟨S, 0, none⟩)] u w fun e u' w' => u' = u ∧ (e = .returned (.tuple #[]) ∧ Fr (fun i => B ≤ i) w w') := by
 rcases hS with h | ⟨T, h1, h2⟩
 · refine (free_deferred ⟨S, 0, none⟩ u w (by rw [blk_cell h]; rfl)).mono ?_;rintro e u' w' ⟨rfl, rfl, rfl⟩;exact ⟨rfl, rfl, Fr.refl _ _⟩
 · refine (freeTD S T u w h1).mono ?_;rintro e u' w' ⟨rfl, rfl, r2⟩;exact ⟨rfl, rfl, r2.mono (fun i _ h => by have h : i = T := h; subst h; exact h2)⟩
set_option maxRecDepth 100000 in
set_option maxHeartbeats 1000000 in
theorem natDivMany (vz vx vy : Value) (zs : List Nat) (X Y : Nat) (w : World) (hz : NatAt w vz zs) (hx : NatAt w vx (limbs X)) (hy : NatAt w vy (limbs Y))
 (hY : WB ≤ Y) (hY' : (limbs Y).length ≤ 4) (hXY : Y ≤ X) (hl : (limbs X).length ≤ 90) (hT : Thr w) : Calls Tryz.prog 179 #[vz, .pointer none, .slice none 0 0, vx, vy] w (DivBoth w vz (.slice none 0 0) X Y) := by
 have hY0 : Y ≠ 0 := by rw [WB_eq] at hY; omega
 have hX0 : X ≠ 0 := by omega
 obtain ⟨m0, y1, t1, t2, t3, t4, t5, t6⟩ := limbs_top Y hY0;have hlen := limbs_len_mono X Y hXY;have hn2 : 2 ≤ (limbs Y).length := by
  by_cases h : 2 ≤ (limbs Y).length;· exact h
  · have h2 : m0 = 0 := by omega
    subst h2;rw [Nat.pow_zero, Nat.mul_one] at t6;omega
 have hne : ∀ {V : Nat}, V ≠ 0 → limbs V ≠ [] := fun h h2 => h (limbs_nil.1 h2)
 obtain ⟨gx, cx, rfl, hcx, hcapx, hgx, hcmx, _⟩ := hx.cell (hne hX0);obtain ⟨gy, cy, rfl, hcy, hcapy, hgy, hcmy, _⟩ := hy.cell (hne hY0);have HC := hid (natCmp _ _ X Y w hx hy);have hc0 : cmpZ X Y = 0 ∨ cmpZ X Y = 1 := by
  unfold cmpZ;rw [if_neg (by omega)];by_cases h : Y < X;· rw [if_pos h]; exact .inr rfl
  · rw [if_neg h]; exact .inl rfl
 have k1 : (cmpZ X Y < 0) = False := eq_false (by omega);generalize cmpZ X Y = cc at *
 have hbx := limbs_lt X;have hby := limbs_lt Y;have hnx := nval_limbs X;have hny := nval_limbs Y;have htop : (limbs Y)[(limbs Y).length - 1]? = some y1 := by rw [t1, Nat.add_sub_cancel]; exact t2
 generalize limbs X = xs at *
 generalize limbs Y = ys at *
 generalize hN : xs.length = N at *
 generalize hn : ys.length = n at *
 obtain ⟨m, hm⟩ : ∃ m, N = m + n := ⟨N - n, by omega⟩
 have n0 : ((n : Int) == 0) = false := beq_eq_false_iff_ne.2 (by omega);have n1 : ((n : Int) == 1) = false := beq_eq_false_iff_ne.2 (by omega);have HCX := hid hcx; have HCY := hid hcy; have HZ := hid hz; have HT := hid hT; have HBX := hid hbx; have HBY := hid hby; have HNX := hid hnx; have HNY := hid hny; have HTOP := hid htop; have HM := hid hm; have HHN := hid hn; have HHX := hid hN;clear hcx hcy hz hT hbx hby hnx hny htop hm hn hN hx hy t1 t2 t5 t6 hne hXY;go_enter_defers Tryz.func179, Tryz.ntmps179;go_wp2_with fail;refine HC.out.mono ?_;rintro e w1 ⟨rfl, hF1⟩;have HF1 := hid hF1;clear hF1 HC;have hst : (w1.alloc (.cells #[.pointer none] 260)).heap[w1.heap.size]? = some (.cells #[.pointer none] 260 (0, 0)) := blk_new _ _;have hF2 : Fr NoB w (w1.alloc (.cells #[.pointer none] 260)) := HF1.out.alloc _;have HL := hid (divLarge w1.heap.size gx cx gy cy N n m y1 vz zs xs ys (w1.alloc (.cells #[.pointer none] 260)) hn2 hY' HM.out (by have := HM.out; omega) hst (HZ.out.fr hF2 (fun g _ h => h)) (fun j x hj => hF2.cell' (HCX.out j x hj) (fun h => h)) HHX.out HBX.out
  (fun j x hj => hF2.cell' (HCY.out j x hj) (fun h => h)) HHN.out HBY.out HTOP.out (by omega) (fun h => by have := HZ.out.lt _ h; have := HF1.out.size; omega) (HT.out.fr hF2 (fun _ _ h => h)))
 rw [HNX.out, HNY.out] at HL;have HST := hid hst; have HF2 := hid hF2;clear hst hF2;go_wp2_with (go_at_call 182; go_in);refine HL.out.mono ?_;rintro e w3 ⟨vq, vr, gr, rfl, a1, a2, a3, a4, a5, a6, ⟨B, b1, b2, b3, a7⟩, a8⟩;have A1 := hid a1; have A2 := hid a2; have A3 := hid a3; have A4 := hid a4; have A5 := hid a5; have A6 := hid a6; have A7 := hid a7; have A8 := hid a8; have B2 := hid b2;clear a1 a2 a3 a4 a5 a6 a7 a8 b2 HL;go_wp2_with fail;refine leaves_cons (f := 183) (args := #[.pointer (some ⟨w1.heap.size, 0, none⟩)]) (by simp) (by simp [go_sem]) ?_;refine (free_any w1.heap.size B .returning w3 A7.out).mono ?_;rintro e u' w'' ⟨rfl, rfl, r1⟩;refine ⟨_, results_tmp2 rfl _ _ _, ?_⟩;have hsz : (w1.alloc (.cells #[.pointer none] 260)).heap.size = w1.heap.size + 1 := by simp
 have h01 := HF1.out.size;rw [hsz] at b1;have F : Fr (fun i => natBlk vz = some i) w w'' := ((HF2.out.mono (fun _ _ h => h.elim)).trans A8.out (fun i hi h => h.resolve_right (by omega))).trans r1 (fun i hi h => by omega);refine ⟨vq, vr, rfl, A1.out.fr r1 (fun g hg h => ?_), A2.out.fr r1 (fun g hg h => ?_), F.mono (fun i _ h => .inl h), fun g hg => ?_, fun g hg => ?_, fun g hg h => ?_⟩;· have := B2.out g hg; omega
 · rw [A4.out] at hg; cases hg; omega
 · rcases A3.out g hg with h | h
   · exact .inl h
   · exact .inr (by omega)
 · rw [A4.out] at hg; cases hg; exact .inr (by have := A5.out; omega)
 · rw [A4.out] at h; cases h; exact A6.out hg
end Go.Proofs.YteokhhepnoelhaaGreatDoor
