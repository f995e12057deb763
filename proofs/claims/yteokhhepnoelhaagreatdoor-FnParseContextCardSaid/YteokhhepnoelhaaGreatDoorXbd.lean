/-
  divBasic: long division, word by word.
-/
import Derived.Test.YteokhhepnoelhaaGreatDoorXbb
import Derived.Test.YteokhhepnoelhaaGreatDoorXbc
set_option linter.unusedVariables false
set_option linter.unusedSimpArgs false
namespace Go.Proofs.YteokhhepnoelhaaGreatDoor
open Go.RowKit
set_option maxRecDepth 100000 in
set_option maxHeartbeats 8000000 in
theorem divBasic (gq cq gu cu gv cv S : Nat) (csq csu : Array Value) (L0 vs : List Nat) (n m v1 v0 ut rec : Nat) (w : World) (hn2 : 2 ≤ n) (hn4 : n ≤ 4) (hm : 1 ≤ m) (hm' : m ≤ 100)
 (hu : w.heap[gu]? = some (.cells csu 105 (0, 0))) (hul : L0.length = m + n) (hus : m + n ≤ csu.size) (huR : RowIs csu L0) (hcu : m + n ≤ cu)
 (hq : w.heap[gq]? = some (.cells csq 105 (0, 0))) (hqs : m ≤ csq.size)
 (hv : ∀ (j x : Nat), vs[j]? = some x → w.cell? ⟨gv, j, none⟩ = some (.int .u64 (x : Int))) (hvl : vs.length = n) (h1 : gq ≠ gu) (h2 : gv ≠ gu) (h3 : gv ≠ gq) (h4 : S ≠ gu) (h5 : S ≠ gq) (h6 : gv ≠ S)
 (hS : w.heap[S]? = some (.cells #[.pointer none] 260 (0, 0))) (hbL : ∀ x ∈ L0, x < WB) (hbv : ∀ x ∈ vs, x < WB) (hv1 : vs[n - 1]? = some v1) (hv0 : vs[n - 2]? = some v0) (hn1 : 9223372036854775808 ≤ v1) (hut : L0[m + n - 1]? = some ut) (hutv : ut < v1)
 (hR : RecOk v1 (recN v1)) :
 Calls Tryz.prog 247 #[.slice (some ⟨gq, 0, none⟩) m cq, .pointer (some ⟨S, 0, none⟩), .slice (some ⟨gu, 0, none⟩) (m + n) cu, .slice (some ⟨gv, 0, none⟩) n cv] w
  fun e w' => e = .returned (.tuple #[]) ∧ BasicRes w gq gu S csq.size csu.size n m (nval vs) L0 w' := by
 have hSl := blk_lt hS;have cv1 := hv (n - 1) v1 hv1;have e1 : IntKind.i64.wrap (((m + n : Nat) : Int) - (n : Int)) = (m : Int) := by rw [IntWalk.i64_in _ (by omega)]; omega
 have e2 : ((m : Int) + (n : Int)) - (n : Int) = (m : Int) := by omega
 have e3 : IntKind.i64.wrap ((n : Int) - 1) = ((n - 1 : Nat) : Int) := by rw [IntWalk.i64_in _ (by omega)]; omega
 have e4 : (n : Int) - 1 = ((n - 1 : Nat) : Int) := by omega
 have n1 : n - 1 < n := by omega
 have HN := stkNat_any S (n + 1) (by omega) (by omega) w hS;rw [show ((n + 1 : Nat) : Int) = (n : Int) + 1 by omega] at HN;have HSV := hid (stkSave S w hS);have HN := hid HN; have HU := hid hu; have HQ := hid hq; have HV := hid hv; have HUR := hid huR; have HSl := hid hSl; have HRC := hid hR;have HBL := hid hbL; have HBV := hid hbv; have HV1 := hid hv1; have HV0 := hid hv0; have HUT := hid hut; have HVL := hid hvl; have HUL := hid hul;clear hu huR hq hv hvl hS hbL hbv hv1 hv0 hut hR hSl hul;go_enter_defers Tryz.func247, Tryz.ntmps247;go_wp2_with (first | (go_at_call 242; refine HSV.out.mono ?_; rintro e w1 ⟨rfl, rfl⟩) | (go_at_call 244; refine HN.out.mono ?_; rintro e w1 ⟨gt, cap, cst, rfl, hg, r1, r2, r3, r4, r5⟩; have HG := hid hg; have HST := hid r4; have HF1 := hid r5; have HGT := hid r3; clear hg r3 r4 r5; have cv1 := HF1.out.cell' (HV.out (n - 1) v1 HV1.out) h6));refine (HRC.out _).mono ?_;rintro e w2 ⟨rfl, hF2⟩;have HF2 := hid (HF1.out.trans hF2 (fun _ _ h => h.elim));have HD : Hid (DivAt w w2 gq gu gt S csq.size csu.size n m (nval vs) L0 (m + 1) 0) := hid
  ⟨⟨csu, csq, cst, L0, [], HF2.out.blk HU.out (Ne.symm h4), rfl, HF2.out.blk HQ.out (Ne.symm h5), rfl, hF2.blk HG.out (fun h => h), r2, HUR.out, HUL.out, HBL.out, (fun i x h => by simp at h), (fun x h => by cases h), .inl ⟨rfl, rfl, rfl, rfl⟩⟩,
   HST.out.fr hF2 (fun h => h) (fun _ _ _ h => h), HF2.out.mono (fun i _ h => .inr (.inr h))⟩
 clear hF2 HST HF1 HG HRC cv1 HN HSV;go_wp2_with fail;go_loopw [13, 14] (fun u j wr => ∃ (K ujn : Nat), u = .int .u64 (ujn : Int) ∧ j = .int .i64 ((K : Int) - 1) ∧ Hid (DivAt w wr gq gu gt S csq.size csu.size n m (nval vs) L0 K ujn)) (fun _ j _ => (intOf j + 1).toNat);case atStart => exact ⟨m + 1, 0, rfl, by go_num, HD⟩
 case round =>
  obtain ⟨K, ujn, rfl, rfl, hD⟩ := hrel;by_cases hK0 : K = 0
  · subst hK0;have hres : ∀ w'', StkS w w'' S gt → Fr (fun i => w.heap.size ≤ i) wr w'' → BasicRes w gq gu S csq.size csu.size n m (nval vs) L0 w'' := by
     intro w'' hs hf;obtain ⟨⟨csu', csq', cst', L, Q, a1, a2, a3, a4, a5, a6, a7, a8, a9, a10, a11, a12⟩, _, b2⟩ := hD.out;have lu := blk_lt HU.out;have lq := blk_lt HQ.out;rcases a12 with ⟨c1, _⟩ | ⟨c1, c2, c3, c4, c5⟩
     · omega
     · rw [List.drop_zero] at c4;rw [Nat.pow_zero, Nat.mul_one] at c5;exact ⟨csu', csq', L, Q, gt, hf.blk a1 (by omega), a2, hf.blk a3 (by omega), a4, a7, a8, a9, (fun i x h => by have := a10 i x h; rwa [Nat.zero_add] at this), by omega, a11, c4, c5, hs, b2.trans hf (fun i hi h => by omega)⟩
    have HRES := hid hres;have HSTK := hid hD.out.stk;clear hres hD;go_wp2_with fail;refine leaves_cons (f := 241) (args := #[.pointer (some ⟨S, 0, none⟩), .int .i64 0]) (by simp) (by simp [go_sem]) ?_;refine (restore_any S gt .returning w wr HSl.out HSTK.out).mono ?_;rintro e u' w'' ⟨rfl, rfl, r1, r2⟩;refine ⟨_, results_none rfl _ _ _, ?_⟩;exact ⟨rfl, HRES.out w'' r1 r2⟩
  · obtain ⟨k, rfl⟩ : ∃ k, K = k + 1 := ⟨K - 1, by omega⟩
    rw [show ((k + 1 : Nat) : Int) - 1 = (k : Int) by omega];have hcv0 : wr.cell? ⟨gv, n - 2, none⟩ = some (.int .u64 (v0 : Int)) := hD.out.fr.cell' (HV.out _ v0 HV0.out) (fun h => h.elim h2 (fun h => h.elim h3 h6));obtain ⟨a1, ha1⟩ : ∃ a, k + n - 1 = a := ⟨_, rfl⟩
    obtain ⟨a2, ha2⟩ : ∃ a, k + n - 2 = a := ⟨_, rfl⟩
    obtain ⟨b2, hb2⟩ : ∃ a, n - 2 = a := ⟨_, rfl⟩
    rw [hb2] at hcv0;have hpre : ∃ u1 u0 : Nat, wr.cell? ⟨gu, a1, none⟩ = some (.int .u64 (u1 : Int)) ∧ wr.cell? ⟨gu, a2, none⟩ = some (.int .u64 (u0 : Int)) ∧ u1 < WB ∧ u0 < WB ∧ ujn ≤ v1 ∧ k ≤ m := by
     obtain ⟨⟨csu', csq', cst', L, Q, d1, d2, d3, d4, d5, d6, d7, d8, d9, d10, d11, d12⟩, _, _⟩ := hD.out;obtain ⟨u1, hu1⟩ : ∃ u, L[k + n - 1]? = some u := by
      have : k + n - 1 < L.length := by rcases d12 with ⟨c1, _⟩ | ⟨c1, _⟩ <;> omega
      exact ⟨_, List.getElem?_eq_getElem this⟩
     obtain ⟨u0, hu0⟩ : ∃ u, L[k + n - 2]? = some u := by
      have : k + n - 2 < L.length := by rcases d12 with ⟨c1, _⟩ | ⟨c1, _⟩ <;> omega
      exact ⟨_, List.getElem?_eq_getElem this⟩
     refine ⟨u1, u0, ?_, ?_, d9 u1 (List.mem_of_getElem? hu1), d9 u0 (List.mem_of_getElem? hu0), ?_, ?_⟩;· rw [blk_cell d1, ← ha1]; exact d7 _ _ hu1
     · rw [blk_cell d1, ← ha2]; exact d7 _ _ hu0
     · rcases d12 with ⟨c1, c2, c3, c4⟩ | ⟨c1, c2, c3, c4, c5⟩
       · omega
       · exact (seg_good hn2 (by omega) d9 HBV.out HVL.out c4 (by rw [← c3]; congr 1; omega) hu1 hu0 HV1.out HV0.out hn1).1
     · rcases d12 with ⟨c1, _⟩ | ⟨c1, _⟩ <;> omega
    obtain ⟨u1, u0, hcu1, hcu0, hu1, hu0, hle, hkm⟩ := hpre;have w1 : IntKind.i64.wrap ((k : Int) + (n : Int)) = (k : Int) + (n : Int) := by rw [IntWalk.i64_in _ (by omega)]
    have w2 : IntKind.i64.wrap ((k : Int) + (n : Int) - 1) = (a1 : Int) := by rw [IntWalk.i64_in _ (by omega)]; omega
    have w3 : IntKind.i64.wrap ((k : Int) + (n : Int) - 2) = (a2 : Int) := by rw [IntWalk.i64_in _ (by omega)]; omega
    have w4 : IntKind.i64.wrap ((n : Int) - 2) = (b2 : Int) := by rw [IntWalk.i64_in _ (by omega)]; omega
    have w5 : (a1 : Int) < (m : Int) + (n : Int) := by omega
    have w6 : (a2 : Int) < (m : Int) + (n : Int) := by omega
    have w7 : (b2 : Int) < (n : Int) := by omega
    have w8 : (k : Int) + (n : Int) - 1 = (a1 : Int) := by omega
    have w9 : (k : Int) + (n : Int) - 2 = (a2 : Int) := by omega
    have w10 : (n : Int) - 2 = (b2 : Int) := by omega
    have hv0b := HBV.out v0 (List.mem_of_getElem? HV0.out);have hv1b := HBV.out v1 (List.mem_of_getElem? HV1.out);go_upto_if 51 with fail;go_cut [15] from 45 to 200 (fun s15 wx => s15 = .int .u64 (guessOf ujn u1 u0 v1 v0 : Nat) ∧ wx = wr);case first =>
     by_cases he : ujn = v1
     · subst he;have f1 : ((ujn : Int) != (ujn : Int)) = false := by simp
       have hg : guessOf ujn u1 u0 ujn v0 = 18446744073709551615 := by unfold guessOf; rw [if_pos rfl]; rfl
       have HG' := hid hg;clear hg;go_wp2_with fail;go_meet;exact ⟨by rw [HG'.out]; rfl, rfl⟩
     · have f1 : ((ujn : Int) != (v1 : Int)) = true := bne_iff_ne.2 (by omega);have hg : guessOf ujn u1 u0 v1 v0 = ((ujn * WB + u1) * WB + u0) / (v1 * WB + v0) := by unfold guessOf; rw [if_neg he]
       have hst := guess_init (a := v1) (b := v0) (u := ujn * WB + u1) (n := u0) (by omega) hv1b hu0;have hDW := divWW_norm ujn u1 v1 hn1 hv1b (by omega) hu1 wr;simp only [← WB_eq] at hDW;have hq0 : (ujn * WB + u1) / v1 < WB := by
        rw [Nat.div_lt_iff_lt_mul (by omega)];have : (ujn + 1) * WB ≤ v1 * WB := Nat.mul_le_mul_right _ (by omega);rw [Nat.add_mul, Nat.one_mul] at this;rw [Nat.mul_comm WB];omega
       obtain ⟨q, hq⟩ : ∃ q, (ujn * WB + u1) / v1 = q := ⟨_, rfl⟩
       obtain ⟨r, hr⟩ : ∃ r, (ujn * WB + u1) % v1 = r := ⟨_, rfl⟩
       rw [hq, hr] at hst hDW;rw [hq] at hq0;have hMW := mulWW q v0 hq0 hv0b wr;simp only [← WB_eq] at hMW;obtain ⟨x1, hx1⟩ : ∃ x, q * v0 / WB = x := ⟨_, rfl⟩
       obtain ⟨x2, hx2⟩ : ∃ x, q * v0 % WB = x := ⟨_, rfl⟩
       rw [hx1, hx2] at hMW;have hx12 : q * v0 = x1 * WB + x2 := by have := Nat.div_add_mod (q * v0) WB; rw [hx1, hx2, Nat.mul_comm] at this; exact this.symm
       have hx2b : x2 < WB := by rw [← hx2]; exact Nat.mod_lt _ WB_pos
       have hx1b : x1 < WB := by rw [← hx1, Nat.div_lt_iff_lt_mul WB_pos]; exact Nat.mul_lt_mul'' hq0 hv0b
       have HDW := hid hDW; have HMW := hid hMW; have HGO := hid hg; have HST := hid hst; have HX12 := hid hx12;clear hg hst hDW hMW hq hr hx1 hx2 hx12;go_wp2_with fail;refine HDW.out.mono ?_;rintro e w3 ⟨rfl, rfl⟩;go_wp2_with fail;refine HMW.out.mono ?_;rintro e w3 ⟨rfl, rfl⟩;go_wp2_with fail;go_loop [15, 16, 18, 19] (fun s15 s16 s18 s19 => ∃ q r x1 x2 : Nat, s15 = .int .u64 (q : Int) ∧ s16 = .int .u64 (r : Int) ∧ s18 = .int .u64 (x1 : Int) ∧ s19 = .int .u64 (x2 : Int) ∧ q < WB ∧ x1 < WB ∧ x2 < WB ∧ Hid (q * v0 = x1 * WB + x2) ∧ Hid (GuessSt v1 v0 (ujn * WB + u1) u0 q r)) (fun s15 _ _ _ => (intOf s15).toNat);case atStart => exact ⟨q, r, x1, x2, rfl, rfl, rfl, rfl, hq0, hx1b, hx2b, HX12, HST⟩
       case round =>
        clear hq0 hx1b hx2b HX12 HST;obtain ⟨q, r, x1, x2, rfl, rfl, rfl, rfl, hq0, hx1b, hx2b, HX12, HST⟩ := hrel;have hrb := HST.out.rb;have HGR := hid (greater_any x1 x2 r u0 hx1b hx2b hrb hu0 wr);by_cases hc : r * WB + u0 < x1 * WB + x2
        · rw [decide_eq_true hc] at HGR;have hc' : r * WB + u0 < q * v0 := by rw [HX12.out]; exact hc
          obtain ⟨hd, hq1⟩ := guess_down (by omega) HST.out hc';have f4 : IntKind.u64.wrap ((q : Int) - 1) = ((q - 1 : Nat) : Int) := by rw [u64_wrap]; rw [WB_eq] at hq0; omega
          by_cases hb : WB ≤ r + v1
          · have hge := guess_break (by omega) hv0b hq0 HST.out hc' hb;have f5 : IntKind.u64.wrap ((r : Int) + (v1 : Int)) = ((r + v1 - WB : Nat) : Int) := by rw [u64_wrap]; rw [WB_eq] at *; omega
            have f6 : ((((r + v1 - WB : Nat) : Int)) < (v1 : Int)) = True := eq_true (by omega);have HGE := hid (HGO.out.trans hge);clear hge hd hc hc' HGO;obtain ⟨t, ht⟩ : ∃ t, r + v1 - WB = t := ⟨_, rfl⟩
            rw [ht] at f5 f6;clear ht;go_wp2_with (go_at_call 280; refine HGR.out.mono ?_; rintro e w3 ⟨rfl, rfl⟩);go_meet;exact ⟨by rw [HGE.out], rfl⟩
          · have hnx := hid (guess_next (by omega) HST.out hc' (by omega));have f5 : IntKind.u64.wrap ((r : Int) + (v1 : Int)) = ((r + v1 : Nat) : Int) := by rw [u64_wrap]; rw [WB_eq] at *; omega
            have f6 : ((((r + v1 : Nat) : Int)) < (v1 : Int)) = False := eq_false (by omega);obtain ⟨l1, l2⟩ := less_words hq1 HX12.out hv0b hx2b hx1b;obtain ⟨t, ht⟩ : ∃ t, r + v1 = t := ⟨_, rfl⟩
            rw [ht] at f5 f6 hnx;by_cases hx : x2 < v0
            · obtain ⟨l3, l4⟩ := l2 hx;have f7 : ((x2 : Int) < (v0 : Int)) = True := eq_true (by omega);have f8 : IntKind.u64.wrap ((x1 : Int) - 1) = ((x1 - 1 : Nat) : Int) := by rw [u64_wrap]; rw [WB_eq] at *; omega
              have f9 : IntKind.u64.wrap ((x2 : Int) - (v0 : Int)) = ((x2 + WB - v0 : Nat) : Int) := by rw [u64_wrap]; rw [WB_eq] at *; omega
              have L4 := hid l4;have hb2 : x2 + WB - v0 < WB := by omega
              obtain ⟨y2, hy2⟩ : ∃ t, x2 + WB - v0 = t := ⟨_, rfl⟩
              rw [hy2] at f9 L4 hb2;clear hd hc hc' l1 l2 l4 ht hy2 hb;go_wp2_with (go_at_call 280; refine HGR.out.mono ?_; rintro e w3 ⟨rfl, rfl⟩);go_round
              case rel => exact ⟨q - 1, t, x1 - 1, y2, rfl, rfl, rfl, rfl, by omega, by omega, hb2, L4, hnx⟩
              case measure => simp [intOf]; omega
            · have l3 := l1 (by omega);have f7 : ((x2 : Int) < (v0 : Int)) = False := eq_false (by omega);have f9 : IntKind.u64.wrap ((x2 : Int) - (v0 : Int)) = ((x2 - v0 : Nat) : Int) := by rw [u64_wrap]; rw [WB_eq] at *; omega
              have L4 := hid l3;have hb2 : x2 - v0 < WB := by omega
              obtain ⟨y2, hy2⟩ : ∃ t, x2 - v0 = t := ⟨_, rfl⟩
              rw [hy2] at f9 L4 hb2;clear hd hc hc' l1 l2 l3 ht hy2 hb;go_wp2_with (go_at_call 280; refine HGR.out.mono ?_; rintro e w3 ⟨rfl, rfl⟩);go_round
              case rel => exact ⟨q - 1, t, x1, y2, rfl, rfl, rfl, rfl, by omega, hx1b, hb2, L4, hnx⟩
              case measure => simp [intOf]; omega
        · rw [decide_eq_false hc] at HGR;have hge := guess_exit (by omega) HST.out (by rw [HX12.out]; omega);have HGE := hid (HGO.out.trans hge);clear hge hc HGO;go_wp2_with (go_at_call 280; refine HGR.out.mono ?_; rintro e w3 ⟨rfl, rfl⟩);go_meet;exact ⟨by rw [HGE.out], rfl⟩
    case rest =>
     obtain ⟨rfl, rfl⟩ := hcut;obtain ⟨qh, hqh⟩ : ∃ q, guessOf ujn u1 u0 v1 v0 = q := ⟨_, rfl⟩
     obtain ⟨⟨csu', csq', cst', L, Q, d1, d2, d3, d4, d5, d6, d7, d8, d9, d10, d11, d12⟩, b1, b2'⟩ := hD.out;have hL1 : L[k + n - 1]? = some u1 := by
      obtain ⟨u, hu⟩ : ∃ u, L[k + n - 1]? = some u := ⟨_, List.getElem?_eq_getElem (by rcases d12 with ⟨c1, _⟩ | ⟨c1, _⟩ <;> omega)⟩
      have h7 := d7 _ _ hu;rw [blk_cell d1, ← ha1, h7] at hcu1;cases hcu1;exact hu
     have hL0 : L[k + n - 2]? = some u0 := by
      obtain ⟨u, hu⟩ : ∃ u, L[k + n - 2]? = some u := ⟨_, List.getElem?_eq_getElem (by rcases d12 with ⟨c1, _⟩ | ⟨c1, _⟩ <;> omega)⟩
      have h7 := d7 _ _ hu;rw [blk_cell d1, ← ha2, h7] at hcu0;cases hcu0;exact hu
     have hcase : (k = m ∧ qh = 0 ∧ L = L0 ∧ Q = []) ∨ (k + 1 ≤ m ∧ GoodQ (nval ((L.drop k).take (n + 1))) (nval vs) qh ∧ Q.length = m - (k + 1) ∧ nval (L.drop (k + 1)) < nval vs ∧ nval L0 = nval L + nval vs * WB ^ (k + 1) * nval Q) := by
      rcases d12 with ⟨c1, c2, c3, c4⟩ | ⟨c1, c2, c3, c4, c5⟩
      · refine .inl ⟨by omega, ?_, c2, c4⟩;have e : u1 = ut := by
         have h := HUT.out;rw [← c2, show m + n - 1 = k + n - 1 by omega, hL1] at h;cases h; rfl
        subst c3 e;rw [← hqh];unfold guessOf;rw [if_neg (by omega), Nat.zero_mul, Nat.zero_add];refine Nat.div_eq_of_lt ?_;have := Nat.mul_le_mul_right WB (show u1 + 1 ≤ v1 from hutv);rw [Nat.add_mul, Nat.one_mul] at this;omega
      · exact .inr ⟨c1, by rw [← hqh]; exact (seg_good hn2 (by omega) d9 HBV.out HVL.out c4 (by rw [← c3]; congr 1; omega) hL1 hL0 HV1.out HV0.out hn1).2, c2, c4, c5⟩
     have hqb : qh < WB := by
      rcases hcase with ⟨_, h, _⟩ | ⟨_, h, _⟩
      · rw [h]; exact WB_pos
      · exact h.2.2
     have lgu := blk_lt HU.out;have lgq := blk_lt HQ.out;have hgt := HGT.out;have hlen : vs.length = n := HVL.out;have hk0 : (0 : Int) ≤ (k : Int) + (n : Int) := by omega
     by_cases hkm' : k = m
     · have hdone : True := trivial;have HM := mulAddVWW gt 0 cap gv 0 cv cst' vs qh 0 _ d5 (by omega) (fun j x hj => by rw [Nat.zero_add]; exact b2'.cell' (HV.out j x hj) (fun h => h.elim h2 (fun h => h.elim h3 h6))) (fun _ => rfl) HBV.out hqb WB_pos (by omega);rw [hlen, show ((0 : Nat) : Int) = 0 from rfl] at HM;have hZl : (mulAddZ vs qh 0).length = n := by rw [mulAddZ_length, hlen]
       have hCb := mulAddC_lt vs qh hqb 0 WB_pos HBV.out;have hQv : nval (mulAddZ vs qh 0 ++ [mulAddC vs qh 0]) = nval vs * qh := by rw [nval_mulAdd, Nat.add_zero]
       have hQb : ∀ x ∈ mulAddZ vs qh 0 ++ [mulAddC vs qh 0], x < WB := fun x hx => by
        rcases List.mem_append.1 hx with h | h;· exact mulAddZ_lt _ _ _ _ h
        · rw [List.mem_singleton] at h; subst h; exact hCb
       have hput : (putV cst' 0 (u64s (mulAddZ vs qh 0))).setIfInBounds n (.int .u64 (mulAddC vs qh 0 : Int)) = putV cst' 0 (u64s (mulAddZ vs qh 0 ++ [mulAddC vs qh 0])) := by
        rw [u64s_append, show u64s [mulAddC vs qh 0] = [.int .u64 (mulAddC vs qh 0 : Int)] from rfl, putV_snoc, u64s_length, hZl, Nat.zero_add]
       have hrow : RowIs (putV cst' 0 (u64s (mulAddZ vs qh 0 ++ [mulAddC vs qh 0]))) (mulAddZ vs qh 0 ++ [mulAddC vs qh 0]) := fun i x hi => by
        have hl := (List.getElem?_eq_some_iff.1 hi).1;rw [List.length_append, hZl, List.length_singleton] at hl;have := putV_get_in (u64s (mulAddZ vs qh 0 ++ [mulAddC vs qh 0])) cst' 0 i (by rw [u64s_length, List.length_append, hZl, List.length_singleton]; omega) (by rw [u64s_length, List.length_append, hZl, List.length_singleton]; omega);rw [Nat.zero_add, u64s_get, hi] at this;exact this
       have hlast : (mulAddZ vs qh 0 ++ [mulAddC vs qh 0])[n]? = some (mulAddC vs qh 0) := by
        rw [List.getElem?_append_right (by omega), hZl, Nat.sub_self]; rfl
       have hqz : qh = 0 → mulAddZ vs qh 0 ++ [mulAddC vs qh 0] = List.replicate (n + 1) 0 := fun h => by
        refine nval_inj _ _ (by rw [List.length_append, hZl, List.length_replicate]; rfl) hQb (fun y hy => by rw [List.eq_of_mem_replicate hy]; exact WB_pos) ?_;rw [hQv, nval_zeros, h, Nat.mul_zero]
       have hqvl : (mulAddZ vs qh 0 ++ [mulAddC vs qh 0]).length = n + 1 := by rw [List.length_append, hZl]; rfl
       have HM := hid HM; have HCASE := hid hcase; have HQV := hid hQv; have HQB := hid hQb; have HROW := hid hrow; have HLAST := hid hlast; have HQZ := hid hqz; have HQVL := hid hqvl;have HPUT := hid hput;have D1 := hid d1; have D3 := hid d3; have D5 := hid d5; have D7 := hid d7; have D8 := hid d8; have D9 := hid d9; have D10 := hid d10; have D11 := hid d11; have B1 := hid b1; have B2 := hid b2';rw [hqh];clear hcase hQv hQb hrow hlast hqz hput d1 d3 d5 d7 d8 d9 d10 d11 d12 b1 b2' hL1 hL0 hqh hZl hqvl;generalize mulAddZ vs qh 0 = ZZ at *
       generalize mulAddC vs qh 0 = cc at *
       obtain ⟨hqh0, hLL, hQQ⟩ : qh = 0 ∧ L = L0 ∧ Q = [] := by
        rcases HCASE.out with ⟨_, h⟩ | ⟨h, _⟩
        · exact h
        · omega
       have hz := HQZ.out hqh0;have hcc : cc = 0 := by
        have := HLAST.out;rw [hz] at this;exact List.eq_of_mem_replicate (List.mem_of_getElem? this)
       have HLL := hid hLL; have HQQ := hid hQQ; have HZ := hid hz;clear hLL hQQ hz;subst hcc hqh0 hkm';have c1 : ((k : Int) + (n : Int) < (k : Int) + ((n : Int) + 1)) = True := eq_true (by omega);have c2 : IntKind.i64.wrap ((k : Int) + ((n : Int) + 1)) = (k : Int) + ((n : Int) + 1) := IntWalk.i64_in _ (by omega);have HKN : ∀ w3 : World, w3.heap[gt]? = some (.cells (putV cst' 0 (u64s (ZZ ++ [0]))) 105 (0, 0)) → w3.cell? ⟨gt, n, none⟩ = some (.int .u64 0) := fun w3 h => by
        rw [blk_cell h]; exact HROW.out n 0 HLAST.out
       have HKN := hid HKN;have HPUT0 : Hid ((putV cst' 0 (u64s ZZ)).setIfInBounds n (.int .u64 0) = putV cst' 0 (u64s (ZZ ++ [0]))) := hid HPUT.out;have HQR : Hid (ZZ ++ [0] = List.replicate (n + 1) 0) := HZ;have HM0 : Hid (Calls Tryz.prog 217 #[.slice (some ⟨gt, 0, none⟩) n cap, .slice (some ⟨gv, 0, none⟩) n cv, .int .u64 0, .int .u64 0] wc fun e w' => e = .returned (.int .u64 0) ∧ w'.heap[gt]? = some (.cells (putV cst' 0 (u64s ZZ)) 105 (0, 0)) ∧ Fr (fun i => i = gt) wc w') := HM;go_upto_if 148 with (first | (go_at_call 217; refine HM0.out.mono ?_; rintro e w3 ⟨rfl, m1, m2⟩; have hs4 := blk_set m1 n (.int .u64 0); have kn : ∃ v, (putV cst' 0 (u64s ZZ))[n]? = some v := ⟨_, Array.getElem?_eq_getElem (by rw [putV_size]; omega)⟩; obtain ⟨vn, hvn⟩ := kn; have kn : w3.cell? ⟨gt, n, none⟩ = some vn := (blk_cell m1 n).trans hvn; have fn := blk_frozen m1 n; rw [HPUT0.out] at hs4; have kz := HKN.out _ hs4; have HS4 := hid hs4; have HF4 := hid (Fr.setCell (S := fun i => i = gt) (p := ⟨gt, n, none⟩) m2 (fun _ => rfl) (.int .u64 0)); clear hs4 m1 m2 hvn))
       clear kz kn fn;generalize w3.setCell ⟨gt, n, none⟩ (.int .u64 0) = W4 at *
       have E1 := HF4.out.blk D1.out (by show gu ≠ gt; omega);have E3 := HF4.out.blk D3.out (by show gq ≠ gt; omega);have hFr4 : Fr (fun i => i = gu ∨ i = gq ∨ i = S) w W4 := B2.out.trans HF4.out (fun i hi h => by have h : i = gt := h; omega);have hB4 := B1.out.fr HF4.out (by show S ≠ gt; have := HSl.out; omega) (fun T _ h h2 => h h2);have hsegl : (L.drop k).length = n := by rw [List.length_drop, D8.out]; omega
       have hsegb : ∀ x ∈ L.drop k, x < WB := fun x hx => D9.out x (List.mem_of_mem_drop hx)
       have HSUB := subVV_any gu k (cu - k) gu k (cu - k) gt 0 cap csu' (L.drop k) (List.replicate n 0) W4.drew E1 (by rw [hsegl]; omega) (by rw [hsegl, List.length_replicate])
        (fun j x hj => by
         have : W4.cell? ⟨gu, k + j, none⟩ = some (.int .u64 (x : Int)) := by rw [blk_cell E1]; exact D7.out (k + j) x (by rw [← List.getElem?_drop]; exact hj)
         exact this) (fun _ => rfl)
        (fun j y hj => by
         have : W4.cell? ⟨gt, 0 + j, none⟩ = some (.int .u64 (y : Int)) := by
          have hlt := (List.getElem?_eq_some_iff.1 hj).1;rw [List.length_replicate] at hlt;rw [Nat.zero_add, blk_cell HS4.out];refine HROW.out j y ?_;rw [HQR.out, List.eq_of_mem_replicate (List.mem_of_getElem? hj), List.getElem?_replicate, if_pos (by omega)]
         exact this) (by omega) hsegb (fun y hy => by rw [List.eq_of_mem_replicate hy]; exact WB_pos) (by omega)
       have hz0 := sb_zero (L.drop k) hsegb;rw [hsegl] at hz0;rw [hz0.1, hz0.2, hsegl, show ((0 : Nat) : Int) = 0 from rfl] at HSUB;have hrow2 : RowIs (putV csu' k (u64s (L.drop k))) L := by
        have := D7.out.put (S := L.drop k) k (by rw [hsegl, D8.out]; omega) (by rw [D8.out]; omega);rw [hsegl, show L.drop (k + n) = [] from List.drop_eq_nil_of_le (by rw [D8.out]; omega), List.append_nil, List.take_append_drop] at this;exact this
       have hL1 : L[k + n - 1]? = some ut := by rw [HLL.out]; exact HUT.out
       have HSUB := hid HSUB; have HROW2 := hid hrow2; have HL1 := hid hL1;have E1 := hid E1; have E3 := hid E3; have HFr4 := hid hFr4; have HB4 := hid hB4;clear hFr4 hB4 hz0 hrow2 hL1 hsegb hsegl;have e5 : ((k : Int) + (n : Int)).toNat = k + n := by omega
       have e6 : (k : Int) + (n : Int) ≤ (cu : Int) := by omega
       have e7 : ¬ (cu = k) := by omega
       have e8 : (n : Int) ≤ (cap : Int) := by omega
       go_still_tail 15, (by kernel_rfl)
       go_wp2_with (first | (go_at_call 205; refine HSUB.out.mono ?_; rintro e w5 ⟨rfl, s1, s2⟩; have kl : w5.cell? ⟨gu, a1, none⟩ = some (.int .u64 (ut : Int)) := (blk_cell s1 a1).trans (HROW2.out a1 ut (by rw [← ha1]; exact HL1.out)); have S1 := hid s1; have S2 := hid s2; clear s1 s2));all_goals
        have f1 : ((k : Int) == (k : Int)) = true := by simp
        have f2 : ((0 : Int) != 0) = false := by simp
        have HNX : Hid (DivAt w w5 gq gu gt S csq.size csu.size n k (nval vs) L0 k ut) := hid (by
         have hD8 := D8.out;refine ⟨⟨_, csq', _, L, [], S1.out, by rw [putV_size]; exact d2, S2.out.blk E3.out h1, d4, S2.out.blk HS4.out (by show gt ≠ gu; omega), by rw [putV_size]; exact d6, HROW2.out, D8.out, D9.out, (fun i x h => by simp at h), (fun x h => by cases h), .inr ⟨Nat.le_refl _, by simp, HL1.out, ?_, ?_⟩⟩, HB4.out.drew.fr S2.out h4 (fun T h _ h2 => by have h2 : T = gu := h2; omega), HFr4.out.drew.trans S2.out (fun i hi h => .inl h)⟩;· exact top_less hn2 D8.out D9.out hlen HL1.out HV1.out hutv
         · rw [show nval ([] : List Nat) = 0 from rfl, Nat.mul_zero, Nat.add_zero, HLL.out])
        clear E1 E3 HFr4 HB4 S1 S2 HSUB HS4 HF4;go_wp2_with fail;go_roundw;case rel => exact ⟨k, ut, rfl, by go_num, HNX⟩
        case measure => simp [intOf]
     · have hk1 : k + 1 ≤ m := by omega
       obtain ⟨hgood, hQl, hR, hV0⟩ : GoodQ (nval ((L.drop k).take (n + 1))) (nval vs) qh ∧ Q.length = m - (k + 1) ∧ nval (L.drop (k + 1)) < nval vs ∧ nval L0 = nval L + nval vs * WB ^ (k + 1) * nval Q := by
        rcases hcase with ⟨h, _⟩ | ⟨_, h⟩
        · omega
        · exact h
       rw [hqh];rename_i hK;by_cases hcb : sbC ((L.drop k).take (n + 1)) (mulAddZ vs qh 0 ++ [mulAddC vs qh 0]) 0 = 0
       · refine hK _ _ (rest_right gq cq gu cu gv cv S gt cap n m k csq.size csu.size qh ujn v1 vs L L0 Q csu' csq' cst' w _ _ _ _ _ _ _ _ _ _ _ _ _ _ _ _ _ _ _ _ _ _ _ _ _ _ _ _ _ _ _ _ _ _ _ _ _ _ _ _ _ _ _ _ _ _ _ _ _ _ _ _ _ _ _ _ _ _ _ _ _ _ _ _ _ _ _ _ _ _ _ _ _ _ _ _ _ _ _ _ _ _ _ _ _ _ _ _ _ _ _ _ _ _ _ _ _ _ _ _ _ _ _ _ _ _ _ _ _ _ _ _ _ _ _ _ _ _ _ _ _ _ _ _ _ _ _ _ _ _ _ _ _ _ _ _ _ _ _ _ _ _ _ _ _ _ _ _ _ _ _ _ _ _ _ _ _ _ _ _ _ _ _ _ _ _ _ _ _ _ _ _ _ _ _ _ _ _ _ _ _ _ _ _ _ _ _ _ _ _ _ _ _ hn2 hn4 hm hm' hus hcu hqs h1 h2 h3 h4 h5 h6 r1 lgu lgq HSl.out HGT.out HV.out hlen HBV.out hk1 hqb hgood hQl hR hV0 d1 d2 d3 d4 d5 d6 d7 d8 d9 d10 d11 b1 b2' hcb ?_);intro ul w' d15 d21 d22 d23 d105 d106 d107 d108 d109 d110 d111 d112 d113 d114 d115 d116 d117 d118 d119 d120 d121 d122 d123 d124 d125 d126 d127 d128 d129 d130 d131 d132 d133 d134 d135 d136 d137 d138 d139 d140 d141 d142 d143 d144 d145 d146 d147 d148 d149 d150 d151 d152 d153 d154 d155 d156 d157 d158 d159 d160 d161 d162 d163 d164 d165 d166 d167 d168 d169 d170 d171 d172 d173 d174 d175 d176 d177 d178 d179 d180 d181 d182 d183 d184 d185 d186 d187 d188 d189 d190 d191 d192 d193 d194 d195 d196 d197 d198 d199 d200 HNX;go_wp2_with fail;go_roundw;case rel => exact ⟨k, ul, rfl, by go_num, HNX⟩
         case measure => simp [intOf]
       · refine hK _ _ (rest_wrong gq cq gu cu gv cv S gt cap n m k csq.size csu.size qh ujn v1 vs L L0 Q csu' csq' cst' w _ _ _ _ _ _ _ _ _ _ _ _ _ _ _ _ _ _ _ _ _ _ _ _ _ _ _ _ _ _ _ _ _ _ _ _ _ _ _ _ _ _ _ _ _ _ _ _ _ _ _ _ _ _ _ _ _ _ _ _ _ _ _ _ _ _ _ _ _ _ _ _ _ _ _ _ _ _ _ _ _ _ _ _ _ _ _ _ _ _ _ _ _ _ _ _ _ _ _ _ _ _ _ _ _ _ _ _ _ _ _ _ _ _ _ _ _ _ _ _ _ _ _ _ _ _ _ _ _ _ _ _ _ _ _ _ _ _ _ _ _ _ _ _ _ _ _ _ _ _ _ _ _ _ _ _ _ _ _ _ _ _ _ _ _ _ _ _ _ _ _ _ _ _ _ _ _ _ _ _ _ _ _ _ _ _ _ _ _ _ _ _ _ hn2 hn4 hm hm' hus hcu hqs h1 h2 h3 h4 h5 h6 r1 lgu lgq HSl.out HGT.out HV.out hlen HBV.out hk1 hqb hgood hQl hR hV0 d1 d2 d3 d4 d5 d6 d7 d8 d9 d10 d11 b1 b2' hcb ?_);intro ul w' d15 d21 d22 d23 d105 d106 d107 d108 d109 d110 d111 d112 d113 d114 d115 d116 d117 d118 d119 d120 d121 d122 d123 d124 d125 d126 d127 d128 d129 d130 d131 d132 d133 d134 d135 d136 d137 d138 d139 d140 d141 d142 d143 d144 d145 d146 d147 d148 d149 d150 d151 d152 d153 d154 d155 d156 d157 d158 d159 d160 d161 d162 d163 d164 d165 d166 d167 d168 d169 d170 d171 d172 d173 d174 d175 d176 d177 d178 d179 d180 d181 d182 d183 d184 d185 d186 d187 d188 d189 d190 d191 d192 d193 d194 d195 d196 d197 d198 d199 d200 HNX;go_wp2_with fail;go_roundw;case rel => exact ⟨k, ul, rfl, by go_num, HNX⟩
         case measure => simp [intOf]
end Go.Proofs.YteokhhepnoelhaaGreatDoor
