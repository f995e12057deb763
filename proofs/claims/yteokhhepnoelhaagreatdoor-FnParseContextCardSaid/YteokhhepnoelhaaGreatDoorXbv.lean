/-
  The law FnParseContext: at every precision, mode and text the call returns true and nothing old has changed.
-/
import Derived.Test.YteokhhepnoelhaaGreatDoorXbr
import Derived.Test.YteokhhepnoelhaaGreatDoorXbu
import Derived.Lay
import Derived.MakeChecks
import Derived.ChangeMaps5
set_option linter.unusedVariables false
set_option linter.unusedSimpArgs false
namespace Go.Proofs.YteokhhepnoelhaaGreatDoor
open Go.RowKit
theorem digs_60 {ds : List UInt8} (hd : Digs ds) (hl : ds.length ≤ 60) : Lib.nDigits (decVal ds) ≤ 60 := by
 by_cases h0 : decVal ds = 0;· rw [h0, Lib.nDigits_small (by omega)]; omega
 · exact nDigits_le h0 (Nat.lt_of_lt_of_le (decVal_lt ds hd) (Nat.pow_le_pow_right (by omega) hl))
theorem numLow_exp {l : List UInt8} {neg : Bool} {ds : List UInt8} {e : Int} (h : NumLow l neg ds e) : -40000 ≤ e ∧ e ≤ 40000 := by
 obtain ⟨es, _, r2, r3⟩ := h.read;have := r3.sum;omega
set_option maxRecDepth 100000 in
set_option maxHeartbeats 4000000 in
theorem context_law (prec mode : Nat) (hp : prec < 256) (hm : mode < 256) (l : List UInt8) (w : World)
 (hR : l.length ≤ 60 → Calls Tryz.prog 8 #[.string ⟨l.toArray⟩] w (ReadEnd8 w l))
 (hP : ∀ neg ds e, NumText l neg ds e → l.length ≤ 60 → ∀ wx, Fr NoB w wx → Calls Tryz.prog 13 #[.agg #[.int .u64 ((1 + prec % 60 : Nat) : Int), .int .i64 100000, .int .i64 (-100000), .int .i64 ((mode % 8 : Nat) : Int)], .string ⟨l.toArray⟩] wx
  (SetStrRes wx neg (rndFl (decVal ds) (1 + prec % 60)) (rndV (mode % 8) neg (decVal ds) (1 + prec % 60)) (e + ((rndE (mode % 8) neg (decVal ds) (1 + prec % 60) : Nat) : Int)))) :
 Calls Tryz.prog 5 #[.int .u8 (prec : Int), .int .u8 (mode : Int), .string ⟨l.toArray⟩] w fun e w' => e = .returned (.bool true) ∧ Fr NoB w w' := by
 have HR := hid hR; have HP := hid hP;have HW := hid (fun W => wideC prec mode hp hm W);clear hR hP;have hp1 : 1 ≤ 1 + prec % 60 := by omega
 have hp2 : 1 + prec % 60 ≤ 60 := by have := Nat.mod_lt prec (show 0 < 60 by omega); omega
 have hm8 : mode % 8 < 8 := Nat.mod_lt _ (by omega);generalize 1 + prec % 60 = p at *
 generalize mode % 8 = m at *
 have hz := str_size l;by_cases h1 : (2147483647 : Int) < l.length;· go_enter Tryz.func5, Tryz.ntmps5;go_wp2_with fail;go_ret;exact ⟨rfl, Fr.refl _ _⟩
 by_cases h2 : (60 : Int) < l.length;· go_enter Tryz.func5, Tryz.ntmps5;go_wp2_with fail;go_ret;exact ⟨rfl, Fr.refl _ _⟩
 have H60 := hid (show l.length ≤ 60 by omega);go_enter Tryz.func5, Tryz.ntmps5;go_wp2_with fail;refine (HR.out H60.out).mono ?_;rintro e w1 ⟨hF1, neg, A, n, c, x, ok, rfl, hok⟩;have HF1 := hid hF1; have HOK := hid hok;clear hF1 hok;cases ok with
 | false =>
  go_wp2_with fail;go_ret;exact ⟨rfl, HF1.out.alloc _⟩
 | true =>
  obtain ⟨ds, hN, hC⟩ := HOK.out rfl;have HN := hid hN; have HC := hid hC;clear HOK hN hC;have HDD := hid (HN.out.low (by have := H60.out; omega));have HBL := hid (decVal_bits HDD.out.2.1 (by have := HDD.out.2.2; have := H60.out; omega));have HND := hid (digs_60 HDD.out.2.1 (by have := HDD.out.2.2; have := H60.out; omega));have HX := hid (numLow_exp HDD.out.1);have HV1 : Hid (BlkAt (w1.alloc (.cells #[.bool neg, .slice A n c, .int .i64 x] 25)) w1.heap.size #[.bool neg, .slice A n c, .int .i64 x] 25) := hid (blk_new _ _);have HG1 : Hid (Fr NoB w1 (w1.alloc (.cells #[.bool neg, .slice A n c, .int .i64 x] 25))) := hid ((Fr.refl _ _).alloc _);go_wp2_with fail;generalize (w1.alloc (.cells #[.bool neg, .slice A n c, .int .i64 x] 25)) = W1 at *
  refine (HW.out W1).mono ?_;rintro e w2 ⟨rfl, hF2⟩;have HG2 := hid hF2;clear hF2;have HC2 : Hid (BlkAt (w2.alloc (.cells #[.int .u64 (p : Int), .int .i64 100000, .int .i64 (-100000), .int .i64 (m : Int)] 38)) w2.heap.size #[.int .u64 (p : Int), .int .i64 100000, .int .i64 (-100000), .int .i64 (m : Int)] 38) := hid (blk_new _ _);have HG3 : Hid (Fr NoB w2 (w2.alloc (.cells #[.int .u64 (p : Int), .int .i64 100000, .int .i64 (-100000), .int .i64 (m : Int)] 38))) := hid ((Fr.refl _ _).alloc _);have c0 := blk_cell HC2.out 0; have c1 := blk_cell HC2.out 1; have c2 := blk_cell HC2.out 2; have c3 := blk_cell HC2.out 3;simp only [List.getElem?_toArray, List.getElem?_cons_zero, List.getElem?_cons_succ] at c0 c1 c2 c3;go_wp2_with fail;generalize (w2.alloc (.cells #[.int .u64 (p : Int), .int .i64 100000, .int .i64 (-100000), .int .i64 (m : Int)] 38)) = W2 at *
  have HF3 := hid (fr_tr HG1.out (fr_tr HG2.out HG3.out));have HF4 := hid (fr_tr HF1.out HF3.out);have HRS := hid (fun (B : Option Addr) (n' c' : Nat) (w' : World) (h1 : CN w' A n c (digs (decVal ds))) (h2 : CW w' B n' c' (limbs (rndV m neg (decVal ds) p))) => roundsC neg (decVal ds) p m x hm8 hp1 hp2 HBL.out HND.out (by have := HX.out; omega) (by have := HX.out; omega) A B n c n' c' w' h1 h2);have HCT := hid (HP.out neg ds x HN.out H60.out W2 HF4.out);clear HP;generalize rndV m neg (decVal ds) p = X at *
  generalize x + ((rndE m neg (decVal ds) p : Nat) : Int) = y at *
  generalize rndFl (decVal ds) p = fl at *
  refine HCT.out.mono ?_;rintro e w3 ⟨A3, n3, k3, rfl, hown, hF5⟩;have HW3 := hid (CW_of_own hown);have HZ : Hid (BlkAt (w3.alloc (.cells #[.int .i64 0, .bool neg, .slice A3 n3 k3, .int .i64 y] 30)) w3.heap.size #[.int .i64 0, .bool neg, .slice A3 n3 k3, .int .i64 y] 30) := hid (blk_new _ _);have HGZ : Hid (Fr NoB w3 (w3.alloc (.cells #[.int .i64 0, .bool neg, .slice A3 n3 k3, .int .i64 y] 30))) := hid ((Fr.refl _ _).alloc _);have HG5 := hid (fr_tr hF5 HGZ.out);have hc5 := HG5.out.blk HC2.out (fun h => h);have hv5 := (fr_tr (fr_tr HG2.out HG3.out) HG5.out).blk HV1.out (fun h => h);have z0 := blk_cell HZ.out 0; have z1 := blk_cell HZ.out 1; have z2 := blk_cell HZ.out 2; have z3 := blk_cell HZ.out 3;have v0 := blk_cell hv5 0; have v1 := blk_cell hv5 1; have v2 := blk_cell hv5 2;have d0 := blk_cell hc5 0; have d1 := blk_cell hc5 1; have d2 := blk_cell hc5 2; have d3 := blk_cell hc5 3;simp only [List.getElem?_toArray, List.getElem?_cons_zero, List.getElem?_cons_succ] at z0 z1 z2 z3 v0 v1 v2 d0 d1 d2 d3;have HR3 := hid (HRS.out A3 n3 k3 _ ((HC.out.fr HF3.out).fr HG5.out) (HW3.out.fr HGZ.out));have HF6 := hid (fr_tr HF4.out HG5.out);clear hown hF5 hv5 hc5 c0 c1 c2 c3;go_wp2_with fail;refine HR3.out.mono ?_;rintro e w4 ⟨rfl, hF7⟩;have HF7 := hid (fr_tr HF6.out hF7);clear hF7;go_wp2_with fail;go_ret;exact ⟨rfl, HF7.out⟩
theorem limbs_rnd (mode : Nat) (neg : Bool) {V : Nat} (p : Nat) (h : blen V ≤ 200) : (limbs (rndV mode neg V p)).length ≤ 900 := by
 have := blen_rndV mode neg p h;have := limbs_len_blen (rndV mode neg V p) 4 (by omega);omega
theorem context_law_all (prec mode : Nat) (hp : prec < 256) (hm : mode < 256) (l : List UInt8) (w : World) {a : Addr} {tpS tpR : TypeId} {pS pR : Value} (hV : VarsX w a tpS tpR pS pR) (hT : Thr w) :
 Calls Tryz.prog 5 #[.int .u8 (prec : Int), .int .u8 (mode : Int), .string ⟨l.toArray⟩] w fun e w' => e = .returned (.bool true) ∧ Below w.heap.size w w' := by
 have hp2 : 1 + prec % 60 ≤ 60 := by have := Nat.mod_lt prec (show 0 < 60 by omega); omega
 have hm8 : mode % 8 < 8 := Nat.mod_lt _ (by omega);have h19 := hT.size;refine (context_law prec mode hp hm l w (fun hl => specRead l w hl) (fun neg ds e hN hl wx hx => ?_)).mono fun e w' ⟨he, hF⟩ => ⟨he, hF.below⟩
 obtain ⟨h1, h2, h3⟩ := hN.low (by omega);have hb := decVal_bits h2 (by omega);have hn := nDigits_bits hb;have hd := digs_60 h2 (by omega);have he := numLow_exp h1;obtain ⟨es, r1, r2, r3⟩ := h1.read;have hE := rndE_le (mode % 8) neg (decVal ds) (1 + prec % 60);refine ctxSetStr l (1 + prec % 60) (mode % 8) hm8 hp2 neg _ (rndFl_cases _ _) _ _ wx (limbs_rnd _ _ _ hb) (by omega) (by omega) ?_;intro D cb w1 hD hF hge hgc hne hC;have hFw := fr_tr hx hF;have hsz := hx.size;have hVx := hV.below hx.below;have hTx := hT.fr hx (fun _ _ h => h);rw [← r2];refine ctxSetString_rnd D cb (mode % 8) hm8 l neg ds es (1 + prec % 60) w1 hC hne (hT.fr hFw (fun _ _ h => h)) (by omega) (blk_lt hD) (by omega) hp2 hb hd (by omega) (by omega) ?_;refine (setString_textX l ds neg e (Lib.nDigits (decVal ds) : Nat) wx w1 D cb hVx hTx h1 (by omega) (digOk_all _ (by omega)) (by omega) (by omega) hD hF hge (1 + prec % 60 : Nat) 0 (modeStr (mode % 8)) (fun w2 h2 => hC.fr h2 hne)).mono ?_;rintro en w' ⟨es', s1, s2, en1, v, hv, hD', hF', hg⟩;rw [s1, ← r2] at hD';exact ⟨en1, v, hv, hD', hF', hg⟩
end Go.Proofs.YteokhhepnoelhaaGreatDoor
namespace Go.Proofs.YteokhhepnoelhaaGreatDoor
open Go.RowKit Go.ChangeShapes Go.WideShapes Go.ChangeAt
theorem trodVars_seven {H : Type} {enc : TypeId × Value → H} {P : Program} {W : World} {sp : Nat → Bool} {n1 n2 n3 n4 n5 n6 n7 : String} {gs : List (DataW H)} {ps : List MemPlace}
 (h : DataW.TrodVars enc P W sp [n1, n2, n3, n4, n5, n6, n7] gs ps) : ∃ g1 g2 g3 g4 g5 g6 g7, gs = [g1, g2, g3, g4, g5, g6, g7] := by
 obtain ⟨g1, r1, q1, e1, h1⟩ := trodVars_cons' h;obtain ⟨g2, r2, q2, e2, h2⟩ := trodVars_cons' h1;obtain ⟨g3, r3, q3, e3, h3⟩ := trodVars_cons' h2;obtain ⟨g4, r4, q4, e4, h4⟩ := trodVars_cons' h3;obtain ⟨g5, r5, q5, e5, h5⟩ := trodVars_cons' h4;obtain ⟨g6, r6, q6, e6, h6⟩ := trodVars_cons' h5;obtain ⟨g7, r7, q7, e7, h7⟩ := trodVars_cons' h6;have e9 := trodVars_nil' h7;exact ⟨g1, g2, g3, g4, g5, g6, g7, by rw [e1, e2, e3, e4, e5, e6, e7, e9]⟩
set_option maxRecDepth 100000 in
set_option maxHeartbeats 4000000 in
theorem context_lifted (os : Os) (started : os.Started) (H : Type) (enc : TypeId × Value → H) :
 ReturnsInHanded {} Tryz.checked os 5 .any (fun w args => (Rows.fnParseContextSpec.pre enc Tryz.prog Tryz.f5 [] false w args ∧ laidMetH Tryz.prog Rows.fnParseContextRow.laid w) ∧ sizedMet enc Tryz.prog Tryz.f5 (OpenSpec.ofChange Rows.fnParseContextSpec) false w args)
  (Rows.fnParseContextSpec.post enc Tryz.prog Tryz.f5 false true false false) := by
 refine returnsInHanded_of_change_and (C := Tryz.checked) (X := fun w _ => laidMetH Tryz.prog Rows.fnParseContextRow.laid w) (fun _ _ _ hh h => h.of_heap hh) Tryz.own started (by as_aux_lemma => kernel_rfl) Tryz.func5
  (ChangeSpec.witness_shaped (enc := enc) (C := Tryz.checked) (os := os) (X := fun w _ => laidMetH Tryz.prog Rows.fnParseContextRow.laid w) false (World.laidAll Tryz.prog os Rows.fnParseContextRow.laid) #[.int .u8 0, .int .u8 0, .string ⟨#[]⟩] 8 (World.laidAll_os _ _ _)
   (World.shaped_of_ZipB (by as_aux_lemma => kernel_rfl) (by as_aux_lemma => kernel_rfl)) (by as_aux_lemma => kernel_rfl) (by as_aux_lemma => kernel_rfl) (by as_aux_lemma => kernel_rfl)
   (by rw [MakeChecks.laidMetH_plain _ _ _ (by as_aux_lemma => kernel_rfl)]; exact laidMet_laidAll _ (by as_aux_lemma => kernel_rfl) (by as_aux_lemma => kernel_rfl))) ?_
 intro W base args ds gs before hval0 hW _ _ hL _;have hval : ∀ (j : Nat) t v, Tryz.f5.params[j]? = some t → args[j]? = some v → Value.okWide Tryz.prog W .any base t v := hval0;have hW' := hW;obtain ⟨p, q, hA0, hV, rfl, _, _⟩ := hW;have hA : DataW.TrodAll enc Tryz.prog W 0 (fun _ => true) true Tryz.f5.params.toList args.toList ds p := hA0;rw [Tryz.params5] at hA hval;obtain ⟨v0, v1, v2, d0, d1, d2, p0, p1, p2, rfl, rfl, rfl, h0, h1, h2⟩ := trodAll_three hA;obtain ⟨x, rfl, rfl, rfl, wx⟩ := open_int Tryz.underlying5 (hval 0 5 v0 rfl rfl) h0;obtain ⟨y, rfl, rfl, rfl, wy⟩ := open_int Tryz.underlying5 (hval 1 5 v1 rfl rfl) h1;obtain ⟨s, rfl, rfl, rfl, ws⟩ := Go.ChangeMaps.open_string Tryz.underlying9 (hval 2 9 v2 rfl rfl) h2;have hx : 0 ≤ x ∧ x ≤ 255 := by simpa [Lit.wf, IntKind.min, IntKind.max, IntKind.signed, IntKind.bits] using wx
 have hy : 0 ≤ y ∧ y ≤ 255 := by simpa [Lit.wf, IntKind.min, IntKind.max, IntKind.signed, IntKind.bits] using wy
 obtain ⟨xn, rfl⟩ : ∃ n : Nat, x = (n : Int) := ⟨x.toNat, by omega⟩
 obtain ⟨yn, rfl⟩ : ∃ n : Nat, y = (n : Int) := ⟨y.toNat, by omega⟩
 rw [MakeChecks.laidMetH_plain _ _ _ (by as_aux_lemma => kernel_rfl)] at hL;have hT : Thr W := thr_of_laid
  (Lib.laidMet.reads hL (d := Rows.laid_loop_example_pub_g03241_pub_bigall_leafSize) (by simp [Rows.fnParseContextRow]))
  (Lib.laidMet.reads hL (d := Rows.laid_loop_example_pub_g03241_pub_bigall_divRecursiveThreshold) (by simp [Rows.fnParseContextRow]))
  (Lib.laidMet.reads hL (d := Rows.laid_loop_example_pub_g03241_pub_bigall_basicSqrThreshold) (by simp [Rows.fnParseContextRow]))
  (Lib.laidMet.reads hL (d := Rows.laid_loop_example_pub_g03241_pub_bigall_karatsubaSqrThreshold) (by simp [Rows.fnParseContextRow]))
  (Lib.laidMet.reads hL (d := Rows.laid_loop_example_pub_g03241_pub_bigall_karatsubaThreshold) (by simp [Rows.fnParseContextRow]))
 obtain ⟨a, pS, pR, hVs⟩ := varsX_of_laid (w := W) (by
  have hac : (Rows.laid_unicode_utf8_acceptRanges : DataW Unit) = Lib.acceptData := by as_aux_lemma => kernel_rfl
  have hL2 := hL;unfold Rows.fnParseContextRow at hL2;simp only [hac] at hL2;exact hL2)
  (Lib.laidMet.reads hL (d := Rows.laid_unicode_CaseRanges) (by simp [Rows.fnParseContextRow]))
  (Lib.laidMet.reads hL (d := Rows.laid_unicode_utf8_first) (by simp [Rows.fnParseContextRow]))
 refine (context_law_all xn yn (by omega) (by omega) s.data.toList W hVs hT).mono fun e W' ⟨he, hb⟩ => ?_
 subst he;obtain ⟨g1, g2, g3, g4, g5, g6, g7, rfl⟩ := trodVars_seven hV;exact ⟨_, rfl, _, _, _, [], [] ++ ([] ++ []), q, hW', trodAll_mk1 (shut_bool Tryz.underlying4 _), trodAll_mk3 (shut_int Tryz.underlying5 wx) (shut_int Tryz.underlying5 wy) (Go.ChangeMaps.shut_string Tryz.underlying9 ws), hb.trodVars Tryz.laidOut (by as_aux_lemma => kernel_rfl) hV, hb.frame _, fun h => by cases h⟩
end Go.Proofs.YteokhhepnoelhaaGreatDoor
