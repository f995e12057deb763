/-
  nat.itoa at base 10, without a sign.
-/
import Derived.Test.YteokhhepnoelhaaGreatDoorXaf
import Derived.Test.YteokhhepnoelhaaGreatDoorXag
import Derived.Defers
import Derived.Lib.SlBytesConst
import Derived.Test.YteokhhepnoelhaaGreatDoorXae
import Derived.Shelf.LaysM
import Derived.Shelf.LaysC
import Derived.Shelf.Strings.OnBuilder
import Derived.Shelf.Strings.Search1
import Derived.Shelf.Small.Strs
import Derived.Shelf.Strings.Prefix
import Derived.Shelf.Strings.CaseAny
import Derived.Shelf.Strconv.ParseIntPublic10
import Derived.Shelf.Strconv.ErrVarParseInt
import Derived.Shelf.Strconv.AppendIntPublic10
import Derived.Test.YteokhhepnoelhaaGreatDoorXac
import Derived.Test.YteokhhepnoelhaaGreatDoorProg
set_option linter.unusedVariables false
set_option linter.unusedSimpArgs false
namespace Go.Proofs.YteokhhepnoelhaaGreatDoor
open Go.RowKit
def BytesAt (w : World) (B : Nat) (v : Value) (l : List UInt8) : Prop :=
 ∃ g o cap cs fr, v = .slice (some ⟨g, o, none⟩) l.length cap ∧ B ≤ g ∧ w.heap[g]? = some (.cells cs 5 fr) ∧ o + cap ≤ cs.size ∧ l.length ≤ cap ∧ cap ≤ 1000000 ∧ ∀ (j : Nat) (b : UInt8), l[j]? = some b → cs[o + j]? = some (.int .u8 (b.toNat : Int))
theorem limbs_len_blen (N k : Nat) (h : blen N ≤ 64 * k) : (limbs N).length ≤ k := by
 refine limbs_length_le k N ?_;have h1 : N < 2 ^ blen N := by
  by_cases h0 : N = 0;· subst h0; exact Nat.pow_pos (by omega)
  · exact (blen_bounds h0).2.1
 have h2 : 2 ^ blen N ≤ 2 ^ (64 * k) := Nat.pow_le_pow_right (by omega) h;have h3 : (2 : Nat) ^ (64 * k) = WB ^ k := by rw [Nat.pow_mul]; rfl
 omega
theorem Tryz.info5 : (Tryz.prog.info? 5).map (fun i => (i.zero, i.size, i.bytes)) = some (some (.int .u8 0), 1, 1) := by kernel_rfl
theorem run_make100 (n : Nat) (hn : n ≤ 1000000) (w : World) :
 (Instr.makeSlice 100 (.int .i64 (n : Int)) (.int .i64 (n : Int))).run Tryz.prog w = .ok (.slice (some ⟨w.heap.size, 0, none⟩) n n) (w.alloc (.cells (madeCells #[.int .u8 0] n) 5)) := by
 obtain ⟨i, hi, hz⟩ := Option.map_eq_some_iff.1 Tryz.info5;simp only [Prod.mk.injEq] at hz;obtain ⟨h0, h1, h2⟩ := hz;have h := run_make (P := Tryz.prog) w 100 5 i (.int .u8 0) Tryz.underlying100 hi h0 .i64 .i64 n n (by omega) (by omega) (by rw [h2]; omega) (by omega);rw [h1, Nat.mul_one, Int.toNat_natCast] at h;exact h
theorem places_facts (bl : Nat) (h : bl < 300) : ∃ f q, (∀ w, (convert 3 220 (.int .i64 (bl : Int))).run Tryz.prog w = .ok (.float .f64 f) w) ∧ (∀ w, (binOp .quo 220 (.float .f64 f) (.float .f64 4614662735865160561)).run Tryz.prog w = .ok (.float .f64 q) w) ∧
 ∀ w, (convert 220 3 (.float .f64 q)).run Tryz.prog w = .ok (.int .i64 ((bl * 30103 / 100000 : Nat) : Int)) w := by
 obtain ⟨q, h1, h2⟩ := places_run bl h;exact ⟨_, q, fun w => conv_run bl w, h1, h2⟩
theorem free_deferred (s : Addr) (u : FrameMode) (w : World) (h : w.cell? s = some (.pointer none)) :
 CallsD Tryz.prog 183 #[.pointer (some s)] u w fun e u' w' => u' = u ∧ (e = .returned (.tuple #[]) ∧ w' = w) := by
 go_enter_d Tryz.func183, Tryz.ntmps183
 go_wp2
 go_end0;exact ⟨rfl, rfl⟩
def ItoaEnd (w : World) (N : Nat) (e : Ending) (w' : World) : Prop := ∃ v, e = .returned v ∧ BytesAt w' w.heap.size v (Lib.decDigits N) ∧ Fr NoB w w'
set_option maxRecDepth 100000 in
set_option maxHeartbeats 1000000 in
theorem natItoa_zero (vx : Value) (w : World) (hx : NatAt w vx (limbs 0)) : Calls Tryz.prog 154 #[vx, .bool false, .int .i64 10] w (ItoaEnd w 0) := by
 obtain ⟨A, c, rfl⟩ := hx.shape;have hl0 : (limbs 0).length = 0 := by rw [limbs_zero]; rfl
 rw [hl0];have hd : Lib.decDigits 0 = [48] := by rw [Lib.decDigits_one (by omega)]; rfl
 have N : ItoaEnd w 0 (.returned (.slice (some ⟨w.heap.size, 0, none⟩) 1 1)) (w.alloc (.cells #[.int .u8 48] 5 (1, 2))) :=
  ⟨_, rfl, by rw [hd]; exact ⟨w.heap.size, 0, 1, _, _, rfl, Nat.le_refl _, blk_new _ _, by simp, by simp, by omega, fun j b hj => by
   cases j with
   | zero => simp at hj; subst hj; rfl
   | succ j => simp at hj⟩, (Fr.refl _ _).alloc _⟩
 have N := hid N;clear hx hd hl0;have kc := fun (w : World) (C : Array Value) (n c : Nat) => Lib.run_convert_bytes_const (P := Tryz.prog) w 100 5 C n c Tryz.underlying100 Tryz.underlying5
 go_enter_defers Tryz.func154, Tryz.ntmps154;go_wp2_with fail;refine ⟨_, results_tmp (t := 6) rfl _ _ _, ?_⟩;exact N.out
set_option maxRecDepth 100000 in
set_option maxHeartbeats 1000000 in
theorem natItoa_pos (vx : Value) (N : Nat) (h0 : N ≠ 0) (hb : blen N < 300) (w : World) (hx : NatAt w vx (limbs N)) (hleaf : w.cell? ⟨9, 0, none⟩ = some (.int .i64 8)) :
 Calls Tryz.prog 154 #[vx, .bool false, .int .i64 10] w (ItoaEnd w N) := by
 have HL := hid (natBitLen vx N w hx);obtain ⟨A, c, rfl⟩ := hx.shape;have hl1 := limbs_len_pos h0;have hl5 : (limbs N).length ≤ 5 := limbs_len_blen N 5 (by omega);obtain ⟨f, q, c1, c2, c3⟩ := places_facts (blen N) hb;have c10 : ∀ w, (convert 3 220 (.int .i64 10)).run Tryz.prog w = .ok (.float .f64 4621819117588971520) w := fun w => by kernel_rfl
 have hpl : places N = blen N * 30103 / 100000 + 1 := rfl;have hp100 : blen N * 30103 / 100000 ≤ 1000 := by omega
 have hmk := fun w : World => run_make100 (places N) (by omega) w
 have HLT := hid (lt_places hb);have HPL := hid hpl;have eb : bits .and .u64 10 18446744073709551606 = 2 := by kernel_rfl
 have HX := hid hx; have H0 := hid h0;have HLF := hid hleaf;have HS := hid (fun wx (h : NatAt wx (.slice A (limbs N).length c) (limbs N)) => natSet (.slice none 0 0) (.slice A (limbs N).length c) [] (limbs N) wx (NatAt.nil _) h (by omega));rw [hpl] at hmk;clear hpl hx h0;rw [show ((blen N * 30103 / 100000 + 1 : Nat) : Int) = ((blen N * 30103 / 100000 : Nat) : Int) + 1 by omega] at hmk;generalize blen N * 30103 / 100000 = bb at *
 generalize hnl : (limbs N).length = n at *
 clear hnl;go_enter_defers Tryz.func154, Tryz.ntmps154;go_wp2_with (first | (go_at_call 156; refine HL.out.mono ?_; rintro e w1 ⟨rfl, rfl⟩) | (go_at_call 180; refine (abs_10 _).mono ?_; rintro e w1 ⟨rfl, rfl⟩) | (go_at_call 182; go_in) | (go_at_call 184; refine (maxPow10 _).mono ?_; rintro e w1 ⟨rfl, rfl⟩));go_outline
 have hF1 : Fr NoB w ((w.alloc (.cells (madeCells #[.int .u8 0] (bb + 1)) 5)).alloc (.cells #[.pointer none] 260)) := ((Fr.refl _ _).alloc _).alloc _;have hs1 : ((w.alloc (.cells (madeCells #[.int .u8 0] (bb + 1)) 5)).alloc (.cells #[.pointer none] 260)).heap[w.heap.size]? = some (.cells (madeCells #[.int .u8 0] (bb + 1)) 5 (0, 0)) := blk_alloc (blk_new w _) _;have hst : ((w.alloc (.cells (madeCells #[.int .u8 0] (bb + 1)) 5)).alloc (.cells #[.pointer none] 260)).heap[w.heap.size + 1]? = some (.cells #[.pointer none] 260 (0, 0)) := by
  have := blk_new (w.alloc (.cells (madeCells #[.int .u8 0] (bb + 1)) 5)) (.cells #[.pointer none] 260 (0, 0));rw [World.size_alloc] at this;exact this
 have hsz : (madeCells #[Value.int .u8 0] (bb + 1)).size = bb + 1 := by simp [size_madeCells]
 have hX1 := HX.out.fr hF1 (fun g hg h => h);have k9 := hF1.cell' HLF.out (fun h => h);have hWs : w.heap.size + 2 = ((w.alloc (.cells (madeCells #[.int .u8 0] (bb + 1)) 5)).alloc (.cells #[.pointer none] 260)).heap.size := by simp
 generalize ((w.alloc (.cells (madeCells #[.int .u8 0] (bb + 1)) 5)).alloc (.cells #[.pointer none] 260)) = W at *
 generalize madeCells #[Value.int .u8 0] (bb + 1) = cs0 at *
 have HS1 := hid (HS.out W hX1);have HF1 := hid hF1; have HB1 := hid hs1; have HST := hid hst; have HSZ := hid hsz; have HWS := hid hWs;clear hF1 hs1 hst hsz hX1 HS hWs hmk c1 c2 c3 c10;go_wp2_with (first | (go_at_call 185; go_in));refine HS1.out.mono ?_;rintro e w2 ⟨vq, rfl, hnq, hFq, hbq⟩;have hFq : Fr NoB W w2 := hFq.mono (fun i hi h => by cases h);have hvq : ∀ g, natBlk vq = some g → W.heap.size ≤ g := fun g hg => (hbq g hg).resolve_left (by intro h; cases h)
 have HC := hid (convertWords10 vq (.pointer (some ⟨w.heap.size + 1, 0, none⟩)) N w.heap.size (bb + 1) (bb + 1) cs0 w2 hnq (hFq.blk HB1.out (fun h => h)) (by have := HSZ.out; omega) (fun g hg h => by have := hvq g hg; have := HWS.out; omega) (by
  have := limbs_len_mono N N (Nat.le_refl _);have h5 := limbs_len_blen N 5 (by omega);omega) (by omega))
 have HFQ := hid hFq; have HVQ := hid hvq;clear hnq hFq hvq hbq;go_wp2_with fail;refine HC.out.mono ?_;rintro e w3 ⟨rfl, hdig, hF3⟩;obtain ⟨cs, d1, d2, d3⟩ := hdig;have hN := H0.out;have hnd : Lib.nDigits N ≤ bb + 1 := nDigits_le hN (by have := HLT.out; rw [HPL.out] at this; exact this);have hn1 := Lib.nDigits_pos N;have hFa : Fr NoB w w3 := by
  refine HF1.out.trans (Fr.trans (S := fun i => natBlk vq = some i ∨ i = w.heap.size) (HFQ.out.mono (fun _ _ h => h.elim)) hF3 (fun i hi h => h)) (fun i hi h => ?_);rcases h with h | h;· have := HVQ.out i h; have := HWS.out; omega
  · omega
 have hstk : w3.cell? ⟨w.heap.size + 1, 0, none⟩ = some (.pointer none) := by
  have h1 := HFQ.out.blk HST.out (fun h => h);have h2 := hF3.blk h1 (fun h => by
   rcases h with h | h;· have := HVQ.out _ h; have := HWS.out; omega
   · omega)
  rw [blk_cell h2]; rfl
 obtain ⟨z0, hz0⟩ : ∃ z0, z0 + Lib.nDigits N = bb + 1 := ⟨bb + 1 - Lib.nDigits N, by omega⟩
 have hzero : ∀ k, k < z0 → w3.cell? ⟨w.heap.size, k, none⟩ = some (.int .u8 48) := fun k hk => by
  rw [blk_cell d1, d3 k (Nat.zero_le _) (by omega), show (N / 10 ^ (bb + 1 - 1 - k) % 10) = 0 from ?_];· rfl
  · have h1 := Lib.lt_pow_nDigits N;have h2 : 10 ^ Lib.nDigits N ≤ 10 ^ (bb + 1 - 1 - k) := Nat.pow_le_pow_right (by omega) (by omega);rw [Nat.div_eq_of_lt (by omega)]
 have hlead : ∃ d : Nat, w3.cell? ⟨w.heap.size, z0, none⟩ = some (.int .u8 (d : Int)) ∧ d ≠ 48 := by
  refine ⟨_, by rw [blk_cell d1, d3 z0 (Nat.zero_le _) (by omega)], ?_⟩;have := lead_digit hN;rw [show bb + 1 - 1 - z0 = Lib.nDigits N - 1 by omega];omega
 have hfin : ItoaEnd w N (.returned (.slice (some ⟨w.heap.size, z0, none⟩) (bb + 1 - z0) (bb + 1 - z0))) w3 := by
  refine ⟨_, rfl, ⟨w.heap.size, z0, bb + 1 - z0, cs, _, by rw [Lib.decDigits_length, show bb + 1 - z0 = Lib.nDigits N by omega], Nat.le_refl _, d1, by have := HSZ.out; omega, by rw [Lib.decDigits_length]; omega, by omega, fun j b hj => ?_⟩, hFa⟩;have hjl := (List.getElem?_eq_some_iff.1 hj).1;rw [Lib.decDigits_length] at hjl;obtain ⟨b', hb1, hb2⟩ := decDigits_get N j hjl;rw [hb1] at hj;cases hj;rw [d3 (z0 + j) (Nat.zero_le _) (by omega), hb2, show bb + 1 - 1 - (z0 + j) = Lib.nDigits N - 1 - j by omega]
 have HZ := hid hzero; have HLD := hid hlead; have HFIN := hid hfin; have HSTK := hid hstk;have hzb : (z0 : Int) < (bb : Int) + 1 := by omega
 clear hzero hlead hfin hstk d1 d2 d3 hN hFa hF3 hnd hn1 hz0 HC HFQ HVQ HF1 HB1 HST;go_wp2_with fail;go_loop [7] (fun i => ∃ k : Nat, i = .int .i64 k ∧ k ≤ z0) (fun i => z0 - (intOf i).toNat);case atStart => exact ⟨0, rfl, Nat.zero_le _⟩
 case round =>
  obtain ⟨k, rfl, hk⟩ := hrel;by_cases hlt : k < z0
  · have hc := HZ.out k hlt;go_wp2_with fail;go_round
    case rel => exact ⟨k + 1, by go_num, by omega⟩
    case measure => simp [intOf]; omega
  · obtain rfl : k = z0 := by omega
    obtain ⟨d, hc, hd⟩ := HLD.out;have hd48 : ((d : Int) == 48) = false := beq_eq_false_iff_ne.2 (by omega);go_wp2_with fail;refine leaves_cons (f := 183) (args := #[.pointer (some ⟨w.heap.size + 1, 0, none⟩)]) (by simp) (by simp [go_sem]) ?_;refine (free_deferred _ .returning _ HSTK.out).mono ?_;rintro e u' w'' ⟨rfl, rfl, rfl⟩;refine ⟨_, results_tmp (t := 6) rfl _ _ _, ?_⟩;exact HFIN.out
theorem natItoa (vx : Value) (N : Nat) (hb : blen N < 300) (w : World) (hx : NatAt w vx (limbs N)) (hleaf : w.cell? ⟨9, 0, none⟩ = some (.int .i64 8)) :
 Calls Tryz.prog 154 #[vx, .bool false, .int .i64 10] w (ItoaEnd w N) := by
 by_cases h0 : N = 0;· subst h0; exact natItoa_zero vx w hx
 · exact natItoa_pos vx N h0 hb w hx hleaf
end Go.Proofs.YteokhhepnoelhaaGreatDoor
namespace Go.Proofs.YteokhhepnoelhaaGreatDoor.PFnParseContext
open Go.RowKit Go.Proofs.YteokhhepnoelhaaGreatDoorW.PrintWords Go.Proofs.YteokhhepnoelhaaGreatDoorW.PrintLast PFnParse
theorem shl_calls (k : Nat) (A0 : Option Addr) (c0 : Nat) (l0 : List Int) (a1 : Int) (r : List Int) (w : World) (hr0 : Kd.C (Kd.int .i64) w A0 l0.length l0) (hc0 : l0.length ≤ c0) (hne : l0 ≠ []) (h : spec_Shl.f k l0 a1 = some r) :
 Calls Tryz.prog 107 #[.slice A0 l0.length c0, .int .i64 a1] w fun e w' => ∃ v0_ : Value, e = .returned (v0_) ∧ Kd.V (Kd.int .i64) 3 w' w.heap.size (fun k_ => (w.heap.size ≤ k_)) v0_ r ∧ Below w.heap.size w w' := by
 have HR0 := Aside0.mk hr0;have HC0 := Aside0.mk hc0;clear hr0 hc0;have HB := Aside0.mk (Below.refl w.heap.size w);have H : (if (l0.length : Int) = 0 then (some l0) else (if 0 ≤ (wrap64 ((wrap64 ((wrap64 (Int.tdiv a1 16)) + (l0.length : Int))) + 1)) then (if (wrap64 ((wrap64 ((wrap64 (Int.tdiv a1 16)) + (l0.length : Int))) + 1) : Int).toNat ≤ 35184372088832 then (spec_Shl.l0 k a1 (List.replicate (wrap64 ((wrap64 ((wrap64 (Int.tdiv a1 16)) + (l0.length : Int))) + 1) : Int).toNat 0) l0 (l0.length : Int) 0) else (none)) else (none))) = some r := h;clear h;by_cases c3 : (l0.length : Int) = 0;· exact absurd (List.length_eq_zero_iff.1 (by omega)) hne
 · rw [if_neg c3] at H;have c3b0 : ((l0.length : Int) == 0) = false := beq_eq_false_iff_ne.mpr c3;have c3b1 : ((l0.length : Int) != 0) = true := bne_iff_ne.mpr c3;have c3b2 : ¬ (l0 = []) := fun h_ => c3 (by rw [h_]; rfl)
   obtain ⟨ji5, hji5⟩ : ∃ j_ : Int, (wrap64 ((wrap64 ((wrap64 (Int.tdiv a1 16)) + (l0.length : Int))) + 1)) = j_ := ⟨_, rfl⟩
   replace H : (if 0 ≤ (ji5) then (if (ji5 : Int).toNat ≤ 35184372088832 then (spec_Shl.l0 k a1 (List.replicate (ji5 : Int).toNat 0) l0 (l0.length : Int) 0) else (none)) else (none)) = some r := by first | (rw [hji5] at H; exact H) | (simp only [hji5] at H ⊢; exact H)
   have hji5w : (IntKind.i64.wrap ((wrap64 ((wrap64 (Int.tdiv a1 16)) + (l0.length : Int))) + 1)) = ji5 := (i64_w _).trans hji5;by_cases c6 : 0 ≤ (ji5)
   · rw [if_pos c6] at H;have c6b0 := eq_true c6;have c6b1 : decide (0 ≤ (ji5)) = true := decide_eq_true c6;clear c6;by_cases c7 : (ji5 : Int).toNat ≤ 35184372088832
     · rw [if_pos c7] at H;have c7b0 := eq_true c7;have c7b1 : decide ((ji5 : Int).toNat ≤ 35184372088832) = true := decide_eq_true c7;clear c7;obtain ⟨y397, hy397⟩ : ∃ y_ : List Int, y_ = (List.replicate (ji5 : Int).toNat 0) := ⟨_, rfl⟩
       replace H : (spec_Shl.l0 k a1 y397 l0 (l0.length : Int) 0) = some r := by first | (rw [hy397]; exact H) | (have H2_ := (Option.bind_some _ _).symm.trans H; rw [hy397]; exact H2_) | exact H
       have Ny397 := Aside0.mk hy397;clear hy397;have H' := Aside0.mk H;clear H;go_enter Tryz.func107, Tryz.ntmps107;go_wp2_with (first | ((with_reducible refine gate_dst (N := 18) rfl ?_); refine Kd.R_make (Kd.int .i64) _ 3 rfl (N := 18) rfl 23 _ _ rfl ji5 rfl rfl Tryz.underlying23 (.int .i64 0) 8 info3 rfl (by decide) (by omega) 0 (ok := fun _ => True) (okp := fun _ => True) rfl (fun _ hk => hk) trivial (of_decide_eq_true asq) (Nat.le_trans (Nat.mul_le_mul_right _ (of_decide_eq_true asq : ji5.toNat ≤ 35184372088832)) (by omega)) (Below.refl _ _) (Nat.le_refl _) ?_; intro v398 w9 ho10 hb hg_ hnew_; clear hg_ hnew_; (first | rw [← Ny397.out] at ho10 | (simp only [Int.reduceToNat] at ho10; rw [← Ny397.out] at ho10)); have n0_ := Aside0.mk (Kd.R_lower (Kd.R_newM (M := fun k_ => (w.heap.size ≤ k_)) ho10 (below_size HBq) (fun k_ h_ => h_)) (below_size HBq)); have n1_ := Aside0.mk (below_step HBq hb); clear HB; have HO399 := n0_; have HB := n1_; clear n0_ n1_; clear hb ho10));go_loopg [21] k (fun kq v21 w' => ∃ (x5_1 : List Int) (x21_1 : Int), v21 = .int .i64 x21_1 ∧ Aside0 (spec_Shl.l0 kq a1 x5_1 l0 (l0.length : Int) x21_1 = some r) ∧ Aside0 (kq ≤ k) ∧ Aside0 (Kd.R (Kd.int .i64) 3 w' w.heap.size (fun k_ => (w.heap.size ≤ k_)) v398 x5_1) ∧ Aside0 (Below w.heap.size w w'));case atStart => exact ⟨(y397), (0), rfq, H', ⟨Nat.le_refl _⟩, ⟨by (with_reducible repeat (first | apply Kd.R_alloc | apply Kd.R_drewN | apply Kd.R_drew)); exact Kd.R_mono HO399.out (fun _ hk => hk.1)⟩, ⟨HBq⟩⟩
       case round =>
        clear H';try clear c1
        try clear p2
        try clear c3
        try clear c3b0
        try clear c3b1
        try clear c3b2
        try clear c6
        try clear c6b0
        try clear c6b1
        try clear p6
        try clear c7
        try clear c7b0
        try clear c7b1
        try clear c10
        obtain ⟨x5_1, x21_1, rfl, HA, HK1, HO_5, HB⟩ := hrel;cases gk with
        | zero => exact absurd HA.out (by simp [spec_Shl.l0])
        | succ k1 =>
         have H := HA.out;clear HA;simp only [spec_Shl.l0] at H;by_cases c11 : x21_1 < (l0.length : Int)
         · rw [if_pos c11] at H;have c11b0 : decide (x21_1 < (l0.length : Int)) = true := decide_eq_true c11;clear c11;by_cases c12 : 0 ≤ x21_1
           · rw [if_pos c12] at H;have c12b0 : decide (0 ≤ x21_1) = true := decide_eq_true c12;clear c12;by_cases c13 : x21_1 < (l0.length : Int)
             · rw [if_pos c13] at H;have c13b0 : decide (x21_1 < (l0.length : Int)) = true := decide_eq_true c13;clear c13;obtain ⟨ji14, hji14⟩ : ∃ j_ : Int, (Int.tmod a1 16) = j_ := ⟨_, rfl⟩
               replace H : (if 0 ≤ (ji14) then (if 0 ≤ (wrap64 ((wrap64 (Int.tdiv a1 16)) + x21_1)) then (if (wrap64 ((wrap64 (Int.tdiv a1 16)) + x21_1)) < (x5_1.length : Int) then (if 0 ≤ (wrap64 ((wrap64 ((wrap64 (Int.tdiv a1 16)) + x21_1)) + 1)) then (if (wrap64 ((wrap64 ((wrap64 (Int.tdiv a1 16)) + x21_1)) + 1)) < (x5_1.length : Int) then (spec_Shl.l0 k1 a1 ((x5_1.set ((wrap64 ((wrap64 (Int.tdiv a1 16)) + x21_1)) : Int).toNat (wrap64 ((rd x5_1 (wrap64 ((wrap64 (Int.tdiv a1 16)) + x21_1))) + (Int.tmod (shl .i64 (rd l0 x21_1) (ji14)) 65536)))).set ((wrap64 ((wrap64 ((wrap64 (Int.tdiv a1 16)) + x21_1)) + 1)) : Int).toNat (wrap64 (Int.tdiv (shl .i64 (rd l0 x21_1) (ji14)) 65536))) l0 (l0.length : Int) (wrap64 (x21_1 + 1))) else (none)) else (none)) else (none)) else (none)) else (none)) = some r := by first | (rw [hji14] at H; exact H) | (simp only [hji14] at H ⊢; exact H)
               by_cases c15 : 0 ≤ (ji14)
               · rw [if_pos c15] at H;have c15b0 := eq_true c15;have c15b1 : decide (0 ≤ (ji14)) = true := decide_eq_true c15;clear c15;obtain ⟨ji16, hji16⟩ : ∃ j_ : Int, (shl .i64 (rd l0 x21_1) (ji14)) = j_ := ⟨_, rfl⟩
                 replace H : (if 0 ≤ (wrap64 ((wrap64 (Int.tdiv a1 16)) + x21_1)) then (if (wrap64 ((wrap64 (Int.tdiv a1 16)) + x21_1)) < (x5_1.length : Int) then (if 0 ≤ (wrap64 ((wrap64 ((wrap64 (Int.tdiv a1 16)) + x21_1)) + 1)) then (if (wrap64 ((wrap64 ((wrap64 (Int.tdiv a1 16)) + x21_1)) + 1)) < (x5_1.length : Int) then (spec_Shl.l0 k1 a1 ((x5_1.set ((wrap64 ((wrap64 (Int.tdiv a1 16)) + x21_1)) : Int).toNat (wrap64 ((rd x5_1 (wrap64 ((wrap64 (Int.tdiv a1 16)) + x21_1))) + (Int.tmod (ji16) 65536)))).set ((wrap64 ((wrap64 ((wrap64 (Int.tdiv a1 16)) + x21_1)) + 1)) : Int).toNat (wrap64 (Int.tdiv (ji16) 65536))) l0 (l0.length : Int) (wrap64 (x21_1 + 1))) else (none)) else (none)) else (none)) else (none)) = some r := by first | (rw [hji16] at H; exact H) | (simp only [hji16] at H ⊢; exact H)
                 have hji16_ : (IntKind.i64.wrap ((rd l0 x21_1) * 2 ^ min (ji14).toNat 64)) = ji16 := hji16;have hji16z : (ji14) ≤ 64 → (IntKind.i64.wrap ((rd l0 x21_1) * 2 ^ (ji14).toNat)) = ji16 := shl_small hji16;have hji16y : (wrap64 ((rd l0 x21_1) * 2 ^ min (ji14).toNat 64)) = ji16 := (i64_w _).symm.trans hji16_;have hji16x : (ji14) ≤ 64 → (wrap64 ((rd l0 x21_1) * 2 ^ (ji14).toNat)) = ji16 := fun h_ => (i64_w _).symm.trans (hji16z h_)
                 obtain ⟨ji17, hji17⟩ : ∃ j_ : Int, (wrap64 ((wrap64 (Int.tdiv a1 16)) + x21_1)) = j_ := ⟨_, rfl⟩
                 replace H : (if 0 ≤ (ji17) then (if (ji17) < (x5_1.length : Int) then (if 0 ≤ (wrap64 ((ji17) + 1)) then (if (wrap64 ((ji17) + 1)) < (x5_1.length : Int) then (spec_Shl.l0 k1 a1 ((x5_1.set ((ji17) : Int).toNat (wrap64 ((rd x5_1 (ji17)) + (Int.tmod (ji16) 65536)))).set ((wrap64 ((ji17) + 1)) : Int).toNat (wrap64 (Int.tdiv (ji16) 65536))) l0 (l0.length : Int) (wrap64 (x21_1 + 1))) else (none)) else (none)) else (none)) else (none)) = some r := by first | (rw [hji17] at H; exact H) | (simp only [hji17] at H ⊢; exact H)
                 have hji17w : (IntKind.i64.wrap ((wrap64 (Int.tdiv a1 16)) + x21_1)) = ji17 := (i64_w _).trans hji17;by_cases c18 : 0 ≤ (ji17)
                 · rw [if_pos c18] at H;have c18b0 : decide (0 ≤ (ji17)) = true := decide_eq_true c18;clear c18;by_cases c19 : (ji17) < (x5_1.length : Int)
                   · rw [if_pos c19] at H;have c19b0 : decide ((ji17) < (x5_1.length : Int)) = true := decide_eq_true c19;clear c19;obtain ⟨y402, hy402⟩ : ∃ y_ : List Int, y_ = (x5_1.set ((ji17) : Int).toNat (wrap64 ((rd x5_1 (ji17)) + (Int.tmod (ji16) 65536)))) := ⟨_, rfl⟩
                     replace H : (if 0 ≤ (wrap64 ((ji17) + 1)) then (if (wrap64 ((ji17) + 1)) < (x5_1.length : Int) then (spec_Shl.l0 k1 a1 (y402.set ((wrap64 ((ji17) + 1)) : Int).toNat (wrap64 (Int.tdiv (ji16) 65536))) l0 (l0.length : Int) (wrap64 (x21_1 + 1))) else (none)) else (none)) = some r := by first | (rw [hy402]; exact H) | (have H2_ := (Option.bind_some _ _).symm.trans H; rw [hy402]; exact H2_) | exact H
                     have Ny402 := Aside0.mk hy402;clear hy402;obtain ⟨ji21, hji21⟩ : ∃ j_ : Int, (wrap64 ((ji17) + 1)) = j_ := ⟨_, rfl⟩
                     replace H : (if 0 ≤ (ji21) then (if (ji21) < (x5_1.length : Int) then (spec_Shl.l0 k1 a1 (y402.set ((ji21) : Int).toNat (wrap64 (Int.tdiv (ji16) 65536))) l0 (l0.length : Int) (wrap64 (x21_1 + 1))) else (none)) else (none)) = some r := by first | (rw [hji21] at H; exact H) | (simp only [hji21] at H ⊢; exact H)
                     have hji21w : (IntKind.i64.wrap ((ji17) + 1)) = ji21 := (i64_w _).trans hji21;by_cases c22 : 0 ≤ (ji21)
                     · rw [if_pos c22] at H;have c22b0 : decide (0 ≤ (ji21)) = true := decide_eq_true c22;clear c22;by_cases c23 : (ji21) < (x5_1.length : Int)
                       · rw [if_pos c23] at H;have c23b0 : decide ((ji21) < (x5_1.length : Int)) = true := decide_eq_true c23;clear c23;obtain ⟨y403, hy403⟩ : ∃ y_ : List Int, y_ = (y402.set ((ji21) : Int).toNat (wrap64 (Int.tdiv (ji16) 65536))) := ⟨_, rfl⟩
                         replace H : (spec_Shl.l0 k1 a1 y403 l0 (l0.length : Int) (wrap64 (x21_1 + 1))) = some r := by first | (rw [hy403]; exact H) | (have H2_ := (Option.bind_some _ _).symm.trans H; rw [hy403]; exact H2_) | exact H
                         have Ny403 := Aside0.mk hy403;clear hy403;have H' := Aside0.mk H;clear H;have p400 : 0 ≤ (x21_1 : Int) := of_decide_eq_true asq;have q400 : x21_1 < (l0.length : Int) := of_decide_eq_true asq;obtain ⟨ad400, e400, hx400_0⟩ := Kd.at_int HR0.out x21_1 p400 q400;cases e400;replace hx400_0 := (HB.out.cell (World.block_lt_of_cell? w _ hx400_0)).trans hx400_0;replace p400 := eq_true p400;replace q400 := eq_true q400;obtain ⟨Ao25, co25, eo25⟩ := Kd.R_slice HO_5.out;subst eo25;have p401 : 0 ≤ ((ji17) : Int) := of_decide_eq_true asq;have q401 : (ji17) < (x5_1.length : Int) := of_decide_eq_true asq;obtain ⟨ad401, e401, hx401_0⟩ := Kd.at_int (Kd.R_reads' HO_5.out).2.2 (ji17) p401 q401;cases e401;replace p401 := eq_true p401;replace q401 := eq_true q401;have p20 : 0 ≤ ((ji17) : Int) := of_decide_eq_true asq;have q20 : ((ji17) : Int) < ((x5_1.length : Int) : Int) := of_decide_eq_true asq;obtain ⟨go20, co20, eo20, gb20, gl20, cl20, HG20⟩ := Kd.R_form HO_5.out (by omega);(first | cases eo20 | (injection eo20 with ea_ en_ ec_; (first | subst ea_ | (injection ea_ with ea_; subst ea_)); subst ec_; clear en_));have GB20 := Aside0.mk gb20;have GG20 := Aside0.mk HG20;clear gb20 gl20 HG20;(first | simp only [add_plain] at hx401_0 | skip);obtain ⟨hx20_0, hf20_0⟩ := Kd.R_celln 0 HO_5.out ((ji17) : Int) p20 q20;replace p20 := eq_true p20;replace q20 := eq_true q20;have HP26 := Kd.R_putg HO_5.out ((ji17) : Int) (wrap64 ((rd x5_1 (ji17)) + (Int.tmod (ji16) 65536)));go_wp2_with (first | ((with_reducible refine gate_store (t := 3) (p := 40) rfl ?_); refine store_event (t := 3) (p := 40) (v := ?vo_w27) (w1 := (wr.setCell ⟨go20, ((ji17) : Int).toNat, none⟩ (.int .i64 (wrap64 ((rd x5_1 (ji17)) + (Int.tmod (ji16) 65536)))))) ?hg ?ho ?hn ?hr ?_; (case ho => rfl); (case hg => rfl); (case hn => rfl); (case hr => first | (go_simp; done) | (go_simp; rfl)); intro w27 hw; have hg : wr.grownBy w27 (some go20) := (by rw [hw]; exact HP26.2); have hp_ : Kd.R (Kd.int .i64) 3 w27 w.heap.size (fun k_ => (w.heap.size ≤ k_)) (.slice (some ⟨go20, 0, none⟩) x5_1.length co25) y402 := (by rw [hw, Ny402.out]; exact HP26.1); clear HP26; have n0_ := Aside0.mk (hp_); have n1_ := Aside0.mk ((by rw [hw]; exact below_set (HB.out) GB20.out : Below w.heap.size w w27)); clear HO_5; clear HB; have HO_5 := n0_; have HB := n1_; clear n0_ n1_; clear hg hw hp_; have p24 : 0 ≤ ((ji21) : Int) := of_decide_eq_true asq; have q24 : ((ji21) : Int) < ((x5_1.length : Int) : Int) := of_decide_eq_true asq; obtain ⟨hx24_0, hf24_0⟩ := Kd.R_celln 0 HO_5.out ((ji21) : Int) p24 q24; replace p24 := eq_true p24; replace q24 := eq_true q24; obtain ⟨hy28_, hz28_⟩ := Kd.R_celln 0 HO_5.out ((ji21) : Int) (of_decide_eq_true asq) (of_decide_eq_true asq); have HP28 := Kd.R_putg HO_5.out ((ji21) : Int) (wrap64 (Int.tdiv (ji16) 65536))) | ((with_reducible refine gate_store (t := 3) (p := 49) rfl ?_); refine store_event (t := 3) (p := 49) (v := ?vo_w29) (w1 := (w27.setCell ⟨go20, ((ji21) : Int).toNat, none⟩ (.int .i64 (wrap64 (Int.tdiv (ji16) 65536))))) ?hg ?ho ?hn ?hr ?_; (case ho => rfl); (case hg => rfl); (case hn => rfl); (case hr => first | (go_simp; done) | (go_simp; rfl)); intro w29 hw; have hg : w27.grownBy w29 (some go20) := (by rw [hw]; exact HP28.2); have hp_ : Kd.R (Kd.int .i64) 3 w29 w.heap.size (fun k_ => (w.heap.size ≤ k_)) (.slice (some ⟨go20, 0, none⟩) x5_1.length co25) y403 := (by rw [hw, Ny403.out]; exact HP28.1); clear HP28; have n0_ := Aside0.mk (hp_); have n1_ := Aside0.mk ((by rw [hw]; exact below_set (HB.out) GB20.out : Below w.heap.size w w29)); clear HO_5; clear HB; have HO_5 := n0_; have HB := n1_; clear n0_ n1_; clear hg hw hp_));go_roundg k1;case measure => have := HK1.out; omega
                         case rel => exact ⟨(y403), (wrap64 (x21_1 + 1)), rfq, H', ⟨by have := HK1.out; omega⟩, ⟨RAq HO_5.out⟩, ⟨HBq⟩⟩
                       · rw [if_neg c23] at H;exact absurd H (by simp)
                     · rw [if_neg c22] at H;exact absurd H (by simp)
                   · rw [if_neg c19] at H;exact absurd H (by simp)
                 · rw [if_neg c18] at H;exact absurd H (by simp)
               · rw [if_neg c15] at H;exact absurd H (by simp)
             · rw [if_neg c13] at H;exact absurd H (by simp)
           · rw [if_neg c12] at H;exact absurd H (by simp)
         · rw [if_neg c11] at H;have c11b0 : decide (x21_1 < (l0.length : Int)) = false := decide_eq_false c11;clear c11;replace H := Option.bind_eq_some_iff.mp H;obtain ⟨t404, A300, H⟩ := H;replace H : (some t404) = some r := H;have A30 := Aside0.mk A300;clear A300;obtain rfl := Option.some.inj H;obtain ⟨Ao31, co31, eo31⟩ := Kd.R_slice HO_5.out;subst eo31;go_wp2_with (first | ((with_reducible refine gate_callee (f := 36) rfl ?_); refine goesL_ (some 52) rfl rfl Tryz.func36 (by kernel_rfl) rfl #[.slice Ao31 x5_1.length co31] rfl (by (try simp only [List.map_toArray, List.map_cons, List.map_nil]); first | done | rfl | (simp only [List.length_drop, List.length_take]; rfl)) ?_; (with_reducible refine (spec_trim.calls k1 (fun k_ => some k_ = (.slice Ao31 x5_1.length co31 : Value).ownBlock) _ _ x5_1 t404 _ ?side1 A30.out).mono ?_); (case side1 => exact Kd.R_V (Kd.R_tight rfl (HO_5.out))); rintro e w32 ⟨v405, rfl, ho0, hb⟩; refine ⟨_, rfl, ?_⟩; have n0_ := Aside0.mk (Kd.R_below (RAq HO_5.out) hb); have n1_ := Aside0.mk (Kd.V_lower (Kd.V_mono (ok' := fun k_ => (w.heap.size ≤ k_)) ho0 (fun k_ hk_ => Or.elim hk_ (fun hs_ => ((HO_5.out).1 k_ hs_.symm)) (fun hn_ => (Nat.le_trans (below_size HBq) hn_)))) (below_size HBq)); have n2_ := Aside0.mk (below_step HBq hb); clear HO_5; clear HB; have HO_5 := n0_; have HO406 := n1_; have HB := n2_; clear n0_ n1_ n2_; (try clear hb); (try clear ho0)));go_ret;exact ⟨_, by first | rfl | (simp [errW_none, errW_some] <;> rfl) | (simp only [← hji5]; first | rfl | (simp [errW_none, errW_some] <;> rfl)) | (simp [*, errW_none, errW_some] <;> rfl), by (with_reducible repeat (first | apply Kd.V_alloc | apply Kd.V_drewN | apply Kd.V_drew)); exact HO406.out, HBq⟩
     · rw [if_neg c7] at H;exact absurd H (by simp)
   · rw [if_neg c6] at H;exact absurd H (by simp)
end Go.Proofs.YteokhhepnoelhaaGreatDoor.PFnParseContext
namespace Go.Proofs
open Go.Shelf
def Tryz.lays159_ren : Go.Shelf.Ren := ⟨fun | 159 => 52 | 165 => 75 | 166 => 76 | 167 => 77 | 169 => 78 | 230 => 79 | 204 => 80 | 240 => 115 | 241 => 116 | 197 => 117 | 118 => 118 | 168 => 119 | 270 => 120 | 262 => 121 | 276 => 157 | 277 => 158 | 260 => 159 | 242 => 160 | 313 => 161 | 278 => 189 | 274 => 190 | 275 => 191 | n => n, fun | 9 => 9 | 4 => 4 | 3 => 3 | 5 => 5 | 72 => 139 | 0 => 0 | 76 => 141 | 75 => 55 | 107 => 145 | 70 => 137 | 20 => 20 | 37 => 100 | 127 => 171 | 21 => 21 | 105 => 172 | 164 => 197 | 162 => 203 | 203 => 201 | 119 => 237 | 46 => 36 | 139 => 240 | 138 => 239 | 51 => 52 | 160 => 241 | 208 => 273 | 206 => 271 | 80 => 81 | n => n, fun | 13 => 1 | 3 => 6 | 4 => 7 | n => n⟩
theorem Tryz.lays159 : Go.Proofs.Lays.n159 Tryz.prog Tryz.lays159_ren := {
 mixed := by kernel_rfl
 f118 := Tryz.func118.trans (congrArg some (by kernel_rfl))
 f159 := Tryz.func52.trans (congrArg some (by kernel_rfl))
 f165 := Tryz.func75.trans (congrArg some (by kernel_rfl))
 f166 := Tryz.func76.trans (congrArg some (by kernel_rfl))
 f167 := Tryz.func77.trans (congrArg some (by kernel_rfl))
 f168 := Tryz.func119.trans (congrArg some (by kernel_rfl))
 f169 := Tryz.func78.trans (congrArg some (by kernel_rfl))
 f197 := Tryz.func117.trans (congrArg some (by kernel_rfl))
 f204 := Tryz.func80.trans (congrArg some (by kernel_rfl))
 f230 := Tryz.func79.trans (congrArg some (by kernel_rfl))
 f240 := Tryz.func115.trans (congrArg some (by kernel_rfl))
 f241 := Tryz.func116.trans (congrArg some (by kernel_rfl))
 f242 := Tryz.func160.trans (congrArg some (by kernel_rfl))
 f260 := Tryz.func159.trans (congrArg some (by kernel_rfl))
 f262 := Tryz.func121.trans (congrArg some (by kernel_rfl))
 f270 := Tryz.func120.trans (congrArg some (by kernel_rfl))
 f274 := Tryz.func190.trans (congrArg some (by kernel_rfl))
 f275 := Tryz.func191.trans (congrArg some (by kernel_rfl))
 f276 := Tryz.func157.trans (congrArg some (by kernel_rfl))
 f277 := Tryz.func158.trans (congrArg some (by kernel_rfl))
 f278 := Tryz.func189.trans (congrArg some (by kernel_rfl))
 f313 := Tryz.func161.trans (congrArg some (by kernel_rfl))
 t0 := Tryz.underlying0
 a0 := Tryz.isAgg0
 z0 := Tryz.sizeOf0
 v0 := Tryz.zeroValue0
 t3 := Tryz.underlying3
 a3 := Tryz.isAgg3
 z3 := Tryz.sizeOf3
 v3 := Tryz.zeroValue3
 t4 := Tryz.underlying4
 a4 := Tryz.isAgg4
 z4 := Tryz.sizeOf4
 v4 := Tryz.zeroValue4
 t5 := Tryz.underlying5
 a5 := Tryz.isAgg5
 z5 := Tryz.sizeOf5
 v5 := Tryz.zeroValue5
 t9 := Tryz.underlying9
 a9 := Tryz.isAgg9
 z9 := Tryz.sizeOf9
 v9 := Tryz.zeroValue9
 t20 := Tryz.underlying20
 a20 := Tryz.isAgg20
 z20 := Tryz.sizeOf20
 v20 := Tryz.zeroValue20
 t21 := Tryz.underlying21
 a21 := Tryz.isAgg21
 z21 := Tryz.sizeOf21
 v21 := Tryz.zeroValue21
 t37 := Tryz.underlying100
 a37 := Tryz.isAgg100
 z37 := Tryz.sizeOf100
 v37 := Tryz.zeroValue100
 t46 := Tryz.underlying36
 a46 := Tryz.isAgg36
 z46 := Tryz.sizeOf36
 v46 := Tryz.zeroValue36
 t51 := Tryz.underlying52
 a51 := Tryz.isAgg52
 z51 := Tryz.sizeOf52
 v51 := Tryz.zeroValue52
 t70 := Tryz.underlying137
 a70 := Tryz.isAgg137
 z70 := Tryz.sizeOf137
 v70 := Tryz.zeroValue137
 t72 := Tryz.underlying139
 a72 := Tryz.isAgg139
 z72 := Tryz.sizeOf139
 v72 := Tryz.zeroValue139
 t75 := Tryz.underlying55
 a75 := Tryz.isAgg55
 z75 := Tryz.sizeOf55
 v75 := Tryz.zeroValue55
 t76 := Tryz.underlying141
 a76 := Tryz.isAgg141
 z76 := Tryz.sizeOf141
 v76 := Tryz.zeroValue141
 t105 := Tryz.underlying172
 a105 := Tryz.isAgg172
 z105 := Tryz.sizeOf172
 v105 := Tryz.zeroValue172
 t107 := Tryz.underlying145
 a107 := Tryz.isAgg145
 z107 := Tryz.sizeOf145
 v107 := Tryz.zeroValue145
 t119 := Tryz.underlying237
 a119 := Tryz.isAgg237
 z119 := Tryz.sizeOf237
 t127 := Tryz.underlying171
 a127 := Tryz.isAgg171
 z127 := Tryz.sizeOf171
 v127 := Tryz.zeroValue171
 t138 := Tryz.underlying239
 a138 := Tryz.isAgg239
 z138 := Tryz.sizeOf239
 v138 := Tryz.zeroValue239
 t139 := Tryz.underlying240
 a139 := Tryz.isAgg240
 z139 := Tryz.sizeOf240
 v139 := Tryz.zeroValue240
 t160 := Tryz.underlying241
 a160 := Tryz.isAgg241
 z160 := Tryz.sizeOf241
 v160 := Tryz.zeroValue241
 t162 := Tryz.underlying203
 a162 := Tryz.isAgg203
 z162 := Tryz.sizeOf203
 v162 := Tryz.zeroValue203
 t164 := Tryz.underlying197
 a164 := Tryz.isAgg197
 z164 := Tryz.sizeOf197
 v164 := Tryz.zeroValue197
 t203 := Tryz.underlying201
 a203 := Tryz.isAgg201
 z203 := Tryz.sizeOf201
 v203 := Tryz.zeroValue201
 t206 := Tryz.underlying271
 a206 := Tryz.isAgg271
 z206 := Tryz.sizeOf271
 v206 := Tryz.zeroValue271
 t208 := Tryz.underlying273
 a208 := Tryz.isAgg273
 z208 := Tryz.sizeOf273
 v208 := Tryz.zeroValue273
 g3 := by kernel_rfl
 g4 := by kernel_rfl
 g13 := by kernel_rfl }
theorem Tryz.Builder_Extra_159 : Builder.Extra Tryz.prog Tryz.lays159_ren := {
 sizeBuilder := by kernel_rfl
 liesBuilder := by kernel_rfl
 t5 := Tryz.underlying5
 a5 := Tryz.isAgg5
 z5 := Tryz.sizeOf5
 v5 := Tryz.zeroValue5
 infoByte := by kernel_rfl
 cellsByte := by kernel_rfl
 sizeByte := by kernel_rfl
 neB5 := by decide }
open Go.RowKit in
def Tryz.lays137_ren : Go.Shelf.Ren := ⟨fun | 137 => 57 | 217 => 85 | 266 => 129 | n => n, fun | 9 => 9 | 5 => 5 | 3 => 3 | n => n, fun | n => n⟩
theorem Tryz.lays137 : Go.Proofs.Lays.n137 Tryz.prog Tryz.lays137_ren := {
 mixed := by kernel_rfl
 f137 := Tryz.func57.trans (congrArg some (by kernel_rfl))
 f217 := Tryz.func85.trans (congrArg some (by kernel_rfl))
 f266 := Tryz.func129.trans (congrArg some (by kernel_rfl))
 t3 := Tryz.underlying3
 a3 := Tryz.isAgg3
 z3 := Tryz.sizeOf3
 v3 := Tryz.zeroValue3
 t5 := Tryz.underlying5
 a5 := Tryz.isAgg5
 z5 := Tryz.sizeOf5
 v5 := Tryz.zeroValue5
 t9 := Tryz.underlying9
 a9 := Tryz.isAgg9
 z9 := Tryz.sizeOf9
 v9 := Tryz.zeroValue9 }
open Go.RowKit in
theorem Tryz.strings_IndexByte (s : ByteArray) (c : Int) (w : World) :
 Calls Tryz.prog 57 #[.string s, .int .u8 c] w fun e w' => e = .returned (.int .i64 (Lib.indexByte s.data.toList c.toNat.toUInt8)) ∧ w' = w := Any.strings_IndexByte Tryz.lays137 s c w
def Tryz.laysC174_ren : Go.Shelf.Ren := ⟨fun | 174 => 58 | 247 => 86 | 245 => 84 | 287 => 83 | 279 => 125 | 280 => 126 | 281 => 127 | 282 => 128 | 321 => 123 | 322 => 124 | 316 => 163 | 171 => 164 | 205 => 55 | 243 => 192 | 246 => 224 | 283 => 218 | 284 => 219 | 285 => 220 | 286 => 221 | 129 => 223 | 317 => 258 | 318 => 259 | 319 => 260 | 320 => 181 | 337 => 212 | 338 => 213 | n => n, fun | 9 => 9 | 3 => 3 | 2 => 2 | 75 => 55 | 85 => 117 | 4 => 4 | 167 => 178 | 5 => 5 | 53 => 112 | 175 => 113 | 46 => 36 | 168 => 180 | 37 => 100 | 0 => 0 | 210 => 206 | 21 => 21 | 127 => 171 | 145 => 149 | 143 => 147 | 171 => 266 | 173 => 268 | 212 => 304 | 51 => 52 | 20 => 20 | 213 => 305 | 232 => 294 | 233 => 295 | 80 => 81 | n => n, fun | 15 => 2 | 16 => 3 | 17 => 17 | 18 => 13 | 19 => 14 | n => n⟩
theorem Tryz.laysC174 : Go.Proofs.LaysC.n174 Tryz.prog Tryz.laysC174_ren := {
 mixed := by kernel_rfl
 f129 := Tryz.func223.trans (congrArg some (by kernel_rfl))
 f171 := Tryz.func164.trans (congrArg some (by kernel_rfl))
 f174 := Tryz.func58.trans (congrArg some (by kernel_rfl))
 f205 := Tryz.func55.trans (congrArg some (by kernel_rfl))
 f243 := Tryz.func192.trans (congrArg some (by kernel_rfl))
 f245 := Tryz.func84.trans (congrArg some (by kernel_rfl))
 f246 := Tryz.func224.trans (congrArg some (by kernel_rfl))
 f247 := Tryz.func86.trans (congrArg some (by kernel_rfl))
 f279 := Tryz.func125.trans (congrArg some (by kernel_rfl))
 f280 := Tryz.func126.trans (congrArg some (by kernel_rfl))
 f281 := Tryz.func127.trans (congrArg some (by kernel_rfl))
 f282 := Tryz.func128.trans (congrArg some (by kernel_rfl))
 f283 := Tryz.func218.trans (congrArg some (by kernel_rfl))
 f284 := Tryz.func219.trans (congrArg some (by kernel_rfl))
 f285 := Tryz.func220.trans (congrArg some (by kernel_rfl))
 f286 := Tryz.func221.trans (congrArg some (by kernel_rfl))
 f287 := Tryz.func83.trans (congrArg some (by kernel_rfl))
 f316 := Tryz.func163.trans (congrArg some (by kernel_rfl))
 f317 := Tryz.func258.trans (congrArg some (by kernel_rfl))
 f318 := Tryz.func259.trans (congrArg some (by kernel_rfl))
 f319 := Tryz.func260.trans (congrArg some (by kernel_rfl))
 f320 := Tryz.func181.trans (congrArg some (by kernel_rfl))
 f321 := Tryz.func123.trans (congrArg some (by kernel_rfl))
 f322 := Tryz.func124.trans (congrArg some (by kernel_rfl))
 f337 := Tryz.func212.trans (congrArg some (by kernel_rfl))
 f338 := Tryz.func213.trans (congrArg some (by kernel_rfl))
 t0 := Tryz.underlying0
 a0 := Tryz.isAgg0
 z0 := Tryz.sizeOf0
 v0 := Tryz.zeroValue0
 t2 := Tryz.underlying2
 a2 := Tryz.isAgg2
 z2 := Tryz.sizeOf2
 v2 := Tryz.zeroValue2
 t3 := Tryz.underlying3
 a3 := Tryz.isAgg3
 z3 := Tryz.sizeOf3
 v3 := Tryz.zeroValue3
 t4 := Tryz.underlying4
 a4 := Tryz.isAgg4
 z4 := Tryz.sizeOf4
 v4 := Tryz.zeroValue4
 t5 := Tryz.underlying5
 a5 := Tryz.isAgg5
 z5 := Tryz.sizeOf5
 v5 := Tryz.zeroValue5
 t9 := Tryz.underlying9
 a9 := Tryz.isAgg9
 z9 := Tryz.sizeOf9
 v9 := Tryz.zeroValue9
 t20 := Tryz.underlying20
 a20 := Tryz.isAgg20
 z20 := Tryz.sizeOf20
 v20 := Tryz.zeroValue20
 t21 := Tryz.underlying21
 a21 := Tryz.isAgg21
 z21 := Tryz.sizeOf21
 v21 := Tryz.zeroValue21
 t37 := Tryz.underlying100
 a37 := Tryz.isAgg100
 z37 := Tryz.sizeOf100
 v37 := Tryz.zeroValue100
 t46 := Tryz.underlying36
 a46 := Tryz.isAgg36
 z46 := Tryz.sizeOf36
 v46 := Tryz.zeroValue36
 t51 := Tryz.underlying52
 a51 := Tryz.isAgg52
 z51 := Tryz.sizeOf52
 v51 := Tryz.zeroValue52
 t53 := Tryz.underlying112
 a53 := Tryz.isAgg112
 z53 := Tryz.sizeOf112
 v53 := Tryz.zeroValue112
 t75 := Tryz.underlying55
 a75 := Tryz.isAgg55
 z75 := Tryz.sizeOf55
 v75 := Tryz.zeroValue55
 t85 := Tryz.underlying117
 a85 := Tryz.isAgg117
 z85 := Tryz.sizeOf117
 v85 := Tryz.zeroValue117
 t127 := Tryz.underlying171
 a127 := Tryz.isAgg171
 z127 := Tryz.sizeOf171
 v127 := Tryz.zeroValue171
 t143 := Tryz.underlying147
 a143 := Tryz.isAgg147
 z143 := Tryz.sizeOf147
 v143 := Tryz.zeroValue147
 t145 := Tryz.underlying149
 a145 := Tryz.isAgg149
 z145 := Tryz.sizeOf149
 v145 := Tryz.zeroValue149
 t167 := Tryz.underlying178
 a167 := Tryz.isAgg178
 z167 := Tryz.sizeOf178
 v167 := Tryz.zeroValue178
 t168 := Tryz.underlying180
 a168 := Tryz.isAgg180
 z168 := Tryz.sizeOf180
 v168 := Tryz.zeroValue180
 t171 := Tryz.underlying266
 a171 := Tryz.isAgg266
 z171 := Tryz.sizeOf266
 v171 := Tryz.zeroValue266
 t173 := Tryz.underlying268
 a173 := Tryz.isAgg268
 z173 := Tryz.sizeOf268
 v173 := Tryz.zeroValue268
 t175 := Tryz.underlying113
 a175 := Tryz.isAgg113
 z175 := Tryz.sizeOf113
 v175 := Tryz.zeroValue113
 t210 := Tryz.underlying206
 a210 := Tryz.isAgg206
 z210 := Tryz.sizeOf206
 v210 := Tryz.zeroValue206
 t212 := Tryz.underlying304
 a212 := Tryz.isAgg304
 z212 := Tryz.sizeOf304
 v212 := Tryz.zeroValue304
 t213 := Tryz.underlying305
 a213 := Tryz.isAgg305
 z213 := Tryz.sizeOf305
 t232 := Tryz.underlying294
 a232 := Tryz.isAgg294
 z232 := Tryz.sizeOf294
 v232 := Tryz.zeroValue294
 t233 := Tryz.underlying295
 a233 := Tryz.isAgg295
 z233 := Tryz.sizeOf295
 v233 := Tryz.zeroValue295
 g15 := by kernel_rfl
 g16 := by kernel_rfl
 g17 := by kernel_rfl
 g18 := by kernel_rfl
 g19 := by kernel_rfl
 t80 := Tryz.underlying81
 a80 := Tryz.isAgg81
 z80 := Tryz.sizeOf81
 v80 := Tryz.zeroValue81
 i0 := by kernel_rfl
 i2 := by kernel_rfl
 i3 := by kernel_rfl
 i4 := by kernel_rfl
 i5 := by kernel_rfl
 i9 := by kernel_rfl
 i20 := by kernel_rfl
 i21 := by kernel_rfl
 i37 := by kernel_rfl
 i46 := by kernel_rfl
 i51 := by kernel_rfl
 i53 := by kernel_rfl
 i75 := by kernel_rfl
 i80 := by kernel_rfl
 i85 := by kernel_rfl
 i127 := by kernel_rfl
 i143 := by kernel_rfl
 i145 := by kernel_rfl
 i167 := by kernel_rfl
 i168 := by kernel_rfl
 i171 := by kernel_rfl
 i173 := by kernel_rfl
 i175 := by kernel_rfl
 i210 := by kernel_rfl
 i212 := by kernel_rfl
 i232 := by kernel_rfl
 i233 := by kernel_rfl
 m15 := by kernel_rfl
 m16 := by kernel_rfl
 m17 := by kernel_rfl
 m18 := by kernel_rfl
 m19 := by kernel_rfl
 c0 := by kernel_rfl
 c2 := by kernel_rfl
 c3 := by kernel_rfl
 c4 := by kernel_rfl
 c5 := by kernel_rfl
 c9 := by kernel_rfl
 c20 := by kernel_rfl
 c21 := by kernel_rfl
 c37 := by kernel_rfl
 c46 := by kernel_rfl
 c51 := by kernel_rfl
 c53 := by kernel_rfl
 c75 := by kernel_rfl
 c80 := by kernel_rfl
 c85 := by kernel_rfl
 c127 := by kernel_rfl
 c143 := by kernel_rfl
 c145 := by kernel_rfl
 c167 := by kernel_rfl
 c168 := by kernel_rfl
 c171 := by kernel_rfl
 c173 := by kernel_rfl
 c175 := by kernel_rfl
 c210 := by kernel_rfl
 c212 := by kernel_rfl
 c213 := by kernel_rfl
 c232 := by kernel_rfl
 c233 := by kernel_rfl }
open Go.RowKit in
theorem Tryz.strconv_ParseInt_10_at32_ok (s : ByteArray) (hmax : s.size ≤ 9223372036854775806) (v : Int) (h : Lib.parseIntB 32 s.data.toList = .ok v) (w : World) :
 Calls Tryz.prog 58 #[.string s, .int .i64 10, .int .i64 32] w fun e w' => e = .returned (.tuple #[.int .i64 v, .nilIface]) ∧ (w' = w ∨ ∃ t, w' = Lib.bytesWorld w 5 t) := Any.strconv_ParseInt_10_at32_ok Tryz.laysC174 s hmax v h w
open Go.RowKit Go.Sort Go.Lib in
def Tryz.lays99_ren : Go.Shelf.Ren := ⟨fun | 99 => 54 | 206 => 82 | n => n, fun | 9 => 9 | 4 => 4 | 3 => 3 | n => n, fun | n => n⟩
theorem Tryz.lays99 : Go.Proofs.Lays.n99 Tryz.prog Tryz.lays99_ren := {
 mixed := by kernel_rfl
 f99 := Tryz.func54.trans (congrArg some (by kernel_rfl))
 f206 := Tryz.func82.trans (congrArg some (by kernel_rfl))
 t3 := Tryz.underlying3
 a3 := Tryz.isAgg3
 z3 := Tryz.sizeOf3
 v3 := Tryz.zeroValue3
 t4 := Tryz.underlying4
 a4 := Tryz.isAgg4
 z4 := Tryz.sizeOf4
 v4 := Tryz.zeroValue4
 t9 := Tryz.underlying9
 a9 := Tryz.isAgg9
 z9 := Tryz.sizeOf9
 v9 := Tryz.zeroValue9 }
open Go.RowKit Go.Lib in
theorem Tryz.strings_HasPrefix (s p : ByteArray) (w : World) :
 Calls Tryz.prog 54 #[.string s, .string p] w fun e w' => e = .returned (.bool (Lib.hasPrefix s.data.toList p.data.toList)) ∧ w' = w := Any.strings_HasPrefix Tryz.lays99 s p w
open Go.RowKit Go.Lib in
theorem Tryz.strings_ToLower_any (s : ByteArray) (w : World) (hs : s.size < 35184372088832) (hV : CaseVar 1 caseA w) (hT : Lib.Utf8Tabs 6 7 w) :
 Calls Tryz.prog 52 #[.string s] w fun e w' => e = .returned (.string ⟨(Lib.toLowerD s.data.toList).toArray⟩) ∧ Below w.heap.size w w' := Any.strings_ToLower_any Tryz.lays159 Tryz.Builder_Extra_159 s w hs hV hT
end Go.Proofs
namespace Go.Proofs.YteokhhepnoelhaaGreatDoor
open Go.RowKit
theorem str_size (l : List UInt8) : (ByteArray.mk l.toArray).size = l.length := by simp [ByteArray.size]
theorem str_extract (l : List UInt8) (n m : Nat) (_hm : m ≤ l.length) : (ByteArray.mk l.toArray).extract n m = ⟨((l.take m).drop n).toArray⟩ := by
 apply ByteArray.ext;rw [ByteArray.data_extract];apply Array.ext';simp [List.drop_take]
theorem str_drop (l : List UInt8) (n : Nat) : (ByteArray.mk l.toArray).extract n l.length = ⟨(l.drop n).toArray⟩ := by
 rw [str_extract l n l.length (Nat.le_refl _), List.take_length]
theorem prefix_len {l p : List UInt8} (h : Lib.hasPrefix l p = true) : p.length ≤ l.length := by
 unfold Lib.hasPrefix at h;exact (List.isPrefixOf_iff_prefix.1 h).length_le
set_option maxHeartbeats 400000 in
theorem consumePrefix_yes (l p : List UInt8) (w : World) (h : Lib.hasPrefix l p = true) :
 Calls Tryz.prog 51 #[.string ⟨l.toArray⟩, .string ⟨p.toArray⟩] w fun e w' => e = .returned (.tuple #[.string ⟨(l.drop p.length).toArray⟩, .bool true]) ∧ w = w' := by
 have hp := prefix_len h;have H := hid (str_drop l p.length);have _hz := str_size l;have _hz2 := str_size p;go_enter Tryz.func51, Tryz.ntmps51;go_wp2_with fail;refine (Tryz.strings_HasPrefix _ _ _).mono fun e w' ⟨he, hw⟩ => ?_
 subst he; subst hw;go_wp2
 go_ret2;exact ⟨by rw [H.out]; rfl, rfl⟩
set_option maxHeartbeats 400000 in
theorem consumePrefix_no (l p : List UInt8) (w : World) (h : Lib.hasPrefix l p = false) :
 Calls Tryz.prog 51 #[.string ⟨l.toArray⟩, .string ⟨p.toArray⟩] w fun e w' => e = .returned (.tuple #[.string ⟨l.toArray⟩, .bool false]) ∧ w = w' := by
 go_enter Tryz.func51, Tryz.ntmps51;go_wp2_with fail;refine (Tryz.strings_HasPrefix _ _ _).mono fun e w' ⟨he, hw⟩ => ?_
 subst he; subst hw;go_wp2
 go_ret2;exact ⟨rfl, rfl⟩
def cutp (l p : List UInt8) : List UInt8 := if Lib.hasPrefix l p = true then l.drop p.length else l
theorem cutp_yes {l p : List UInt8} (h : Lib.hasPrefix l p = true) : cutp l p = l.drop p.length := by simp [cutp, h]
theorem cutp_no {l p : List UInt8} (h : Lib.hasPrefix l p = false) : cutp l p = l := by simp [cutp, h]
theorem consumePrefix_any (l p : List UInt8) (w : World) :
 Calls Tryz.prog 51 #[.string ⟨l.toArray⟩, .string ⟨p.toArray⟩] w fun e w' => e = .returned (.tuple #[.string ⟨(cutp l p).toArray⟩, .bool (Lib.hasPrefix l p)]) ∧ w = w' := by
 cases h : Lib.hasPrefix l p with
 | true => rw [cutp_yes h]; exact consumePrefix_yes l p w h
 | false => rw [cutp_no h]; exact consumePrefix_no l p w h
def unsign (l : List UInt8) : List UInt8 := if Lib.hasPrefix l [45] = true then cutp l [45] else cutp (cutp l [45]) [43]
theorem unsign_minus {l : List UInt8} (h : Lib.hasPrefix l [45] = true) : unsign l = cutp l [45] := by simp [unsign, h]
theorem unsign_else {l : List UInt8} (h : Lib.hasPrefix l [45] = false) : unsign l = cutp (cutp l [45]) [43] := by simp [unsign, h]
def DecAt (w : World) (D : Nat) (f : Int) (n : Bool) (e : Int) (cn : Bool) (A : Value) (m : Bool) : Prop :=
 w.heap[D]? = some (.cells #[.int .i8 f, .bool n, .int .i32 e, .bool cn, A, .bool m] 72 (0, 0))
theorem DecAt.cells {w : World} {D : Nat} {f : Int} {n : Bool} {e : Int} {cn : Bool} {A : Value} {m : Bool} (h : DecAt w D f n e cn A m) :
 (w.cell? ⟨D, 0, none⟩ = some (.int .i8 f) ∧ w.cell? ⟨D, 1, none⟩ = some (.bool n) ∧ w.cell? ⟨D, 2, none⟩ = some (.int .i32 e) ∧ w.cell? ⟨D, 3, none⟩ = some (.bool cn) ∧ w.cell? ⟨D, 4, none⟩ = some A ∧ w.cell? ⟨D, 5, none⟩ = some (.bool m)) ∧
 (w.frozen? ⟨D, 0, none⟩ = false ∧ w.frozen? ⟨D, 1, none⟩ = false ∧ w.frozen? ⟨D, 2, none⟩ = false ∧ w.frozen? ⟨D, 3, none⟩ = false ∧ w.frozen? ⟨D, 4, none⟩ = false ∧ w.frozen? ⟨D, 5, none⟩ = false) :=
 ⟨⟨blk_cell h 0, blk_cell h 1, blk_cell h 2, blk_cell h 3, blk_cell h 4, blk_cell h 5⟩, blk_frozen h 0, blk_frozen h 1, blk_frozen h 2, blk_frozen h 3, blk_frozen h 4, blk_frozen h 5⟩
section
variable {w : World} {D : Nat} {f : Int} {n : Bool} {e : Int} {cn : Bool} {A : Value} {m : Bool}
theorem DecAt.set0 (h : DecAt w D f n e cn A m) (x : Int) : DecAt (w.setCell ⟨D, 0, none⟩ (.int .i8 x)) D x n e cn A m := blk_set h 0 _
theorem DecAt.set1 (h : DecAt w D f n e cn A m) (x : Bool) : DecAt (w.setCell ⟨D, 1, none⟩ (.bool x)) D f x e cn A m := blk_set h 1 _
theorem DecAt.set2 (h : DecAt w D f n e cn A m) (x : Int) : DecAt (w.setCell ⟨D, 2, none⟩ (.int .i32 x)) D f n x cn A m := blk_set h 2 _
theorem DecAt.set3 (h : DecAt w D f n e cn A m) (x : Bool) : DecAt (w.setCell ⟨D, 3, none⟩ (.bool x)) D f n e x A m := blk_set h 3 _
theorem DecAt.set4 (h : DecAt w D f n e cn A m) (x : Value) : DecAt (w.setCell ⟨D, 4, none⟩ x) D f n e cn x m := blk_set h 4 _
theorem DecAt.set5 (h : DecAt w D f n e cn A m) (x : Bool) : DecAt (w.setCell ⟨D, 5, none⟩ (.bool x)) D f n e cn A x := blk_set h 5 _
theorem DecAt.fr {w' : World} {S : Nat → Prop} (h : DecAt w D f n e cn A m) (hF : Fr S w w') (hS : ¬ S D) : DecAt w' D f n e cn A m := hF.blk h hS
end
end Go.Proofs.YteokhhepnoelhaaGreatDoor
