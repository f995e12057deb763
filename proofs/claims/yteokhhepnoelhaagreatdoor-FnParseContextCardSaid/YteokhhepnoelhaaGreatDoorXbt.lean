/-
  The reference's Read: what it answers at every text of at most 60 bytes.
-/
import Derived.Test.YteokhhepnoelhaaGreatDoorXbs
import Derived.Deep.CutRange
set_option linter.unusedVariables false
set_option linter.unusedSimpArgs false
namespace Go.Proofs.YteokhhepnoelhaaGreatDoor
open Go.RowKit
def RdHead (w : World) (l0 s : List UInt8) (ng : Bool) (wx : World) : Prop :=
 ∃ pre, l0 = pre ++ s ∧ SgnOk pre ng ∧ BlkAt wx w.heap.size #[.bool false, .slice none 0 0, .int .i64 0] 25 ∧ BlkAt wx (w.heap.size + 1) #[.bool ng, .slice none 0 0, .int .i64 0] 25 ∧ Fr NoB w wx
theorem RdHead.mk' {w : World} {l0 s pre : List UInt8} {ng : Bool} (h1 : l0 = pre ++ s) (h2 : SgnOk pre ng) : RdHead w l0 s ng ((w.alloc (.cells #[.bool false, .slice none 0 0, .int .i64 0] 25)).alloc (.cells #[.bool ng, .slice none 0 0, .int .i64 0] 25)) := by
 refine ⟨pre, h1, h2, blk_alloc (blk_new w _) _, ?_, ((Fr.refl _ _).alloc _).alloc _⟩;have := blk_new (w.alloc (.cells #[.bool false, .slice none 0 0, .int .i64 0] 25)) (.cells #[.bool ng, .slice none 0 0, .int .i64 0] 25 (0, 0));rw [World.size_alloc] at this;exact this
theorem sign_cases (l0 : List UInt8) : l0 = [] ∨ (∃ s, l0 = 45 :: s) ∨ (∃ s, l0 = 43 :: s) ∨ ∃ x t, l0 = x :: t ∧ x ≠ 45 ∧ x ≠ 43 := by
 cases l0 with
 | nil => exact .inl rfl
 | cons x t =>
  by_cases h1 : x = 45;· exact .inr (.inl ⟨t, by rw [h1]⟩)
  · by_cases h2 : x = 43
    · exact .inr (.inr (.inl ⟨t, by rw [h2]⟩))
    · exact .inr (.inr (.inr ⟨x, t, rfl, h1, h2⟩))
set_option maxRecDepth 100000 in
set_option maxHeartbeats 4000000 in
theorem specRead_all (l0 : List UInt8) (w : World) (hl0 : l0.length ≤ 60) : Calls Tryz.prog 8 #[.string ⟨l0.toArray⟩] w (ReadEnd8 w l0) := by
 have hz0 := str_size l0;go_enter Tryz.func8, Tryz.ntmps8;go_upto_region 2 with fail;go_cut [22] from 9 to 107 (fun t wx => ∃ sg : Bool, t = .bool sg ∧ Hid ((sg = true ∧ ((∃ s, l0 = 45 :: s) ∨ ∃ s, l0 = 43 :: s)) ∨ (sg = false ∧ (l0 = [] ∨ ∃ x t, l0 = x :: t ∧ x ≠ 45 ∧ x ≠ 43))) ∧ wx = ((w.alloc (.cells #[.bool false, .slice none 0 0, .int .i64 0] 25)).alloc (.cells #[.bool false, .slice none 0 0, .int .i64 0] 25)));case first =>
  rcases sign_cases l0 with h0 | ⟨s, h0⟩ | ⟨s, h0⟩ | ⟨x, t, h0, hx1, hx2⟩
  · have hl00 : l0.length = 0 := by rw [h0]; rfl
    have H0 := hid h0;clear h0;generalize l0.length = ll at *
    subst hl00;go_wp2_with fail;go_meet;case rel => exact ⟨false, rfl, hid (.inr ⟨rfl, .inl H0.out⟩), rfl⟩
  · have hlt0 : 0 < (ByteArray.mk l0.toArray).size := by rw [str_size, h0]; simp
    have hpos : (0 : Int) < l0.length := by rw [h0]; simp only [List.length_cons]; omega
    have hg := str_get l0 0 45 (by rw [h0]; rfl) hlt0;have H0 := hid h0;clear h0;go_wp2_with fail;go_meet;case rel => exact ⟨true, rfl, hid (.inl ⟨rfl, .inl ⟨s, H0.out⟩⟩), rfl⟩
  · have hlt0 : 0 < (ByteArray.mk l0.toArray).size := by rw [str_size, h0]; simp
    have hpos : (0 : Int) < l0.length := by rw [h0]; simp only [List.length_cons]; omega
    have hg := str_get l0 0 43 (by rw [h0]; rfl) hlt0;have H0 := hid h0;clear h0;go_wp2_with fail;go_meet;case rel => exact ⟨true, rfl, hid (.inl ⟨rfl, .inr ⟨s, H0.out⟩⟩), rfl⟩
  · have hlt0 : 0 < (ByteArray.mk l0.toArray).size := by rw [str_size, h0]; simp
    have hpos : (0 : Int) < l0.length := by rw [h0]; simp only [List.length_cons]; omega
    have hg := str_get l0 0 x (by rw [h0]; rfl) hlt0;have q45 : ((x.toNat : Int) == 45) = false := by rw [beq_eq_false_iff_ne]; intro h; exact hx1 (UInt8.toNat_inj.1 (by show x.toNat = 45; omega))
    have q43 : ((x.toNat : Int) == 43) = false := by rw [beq_eq_false_iff_ne]; intro h; exact hx2 (UInt8.toNat_inj.1 (by show x.toNat = 43; omega))
    have H0 := hid (show l0 = [] ∨ ∃ x t, l0 = x :: t ∧ x ≠ 45 ∧ x ≠ 43 from .inr ⟨x, t, h0, hx1, hx2⟩);clear h0 hx1 hx2;go_wp2_with fail;go_meet;case rel => exact ⟨false, rfl, hid (.inr ⟨rfl, H0.out⟩), rfl⟩
 case rest =>
  obtain ⟨sg, rfl, hsg, rfl⟩ := hcut;go_upto_if 22 with fail;go_cut [0] from 9 to 107 (fun t wx => ∃ (s : List UInt8) (ng : Bool), t = .string ⟨s.toArray⟩ ∧ Hid (RdHead w l0 s ng wx) ∧ s.length ≤ 60);case first =>
   rcases hsg.out with ⟨rfl, ⟨s, h0⟩ | ⟨s, h0⟩⟩ | ⟨rfl, h0⟩
   · have hlt0 : 0 < (ByteArray.mk l0.toArray).size := by rw [str_size, h0]; simp
     have hpos : (0 : Int) < l0.length := by rw [h0]; simp only [List.length_cons]; omega
     have hg := str_get l0 0 45 (by rw [h0]; rfl) hlt0;have hdr0 : (ByteArray.mk l0.toArray).extract 1 l0.length = ⟨s.toArray⟩ := by rw [str_drop, h0]; rfl
     have HS := hid (show l0 = [45] ++ s from h0);have hsl : s.length ≤ 60 := by rw [h0, List.length_cons] at hl0; omega
     clear h0 hsg;go_wp2_with fail;go_meet;case rel => exact ⟨s, true, rfl, hid (RdHead.mk' HS.out (.inr (.inr ⟨rfl, rfl⟩))), hsl⟩
   · have hlt0 : 0 < (ByteArray.mk l0.toArray).size := by rw [str_size, h0]; simp
     have hpos : (0 : Int) < l0.length := by rw [h0]; simp only [List.length_cons]; omega
     have hg := str_get l0 0 43 (by rw [h0]; rfl) hlt0;have hdr0 : (ByteArray.mk l0.toArray).extract 1 l0.length = ⟨s.toArray⟩ := by rw [str_drop, h0]; rfl
     have HS := hid (show l0 = [43] ++ s from h0);have hsl : s.length ≤ 60 := by rw [h0, List.length_cons] at hl0; omega
     clear h0 hsg;go_wp2_with fail;go_meet;case rel => exact ⟨s, false, rfl, hid (RdHead.mk' HS.out (.inr (.inl ⟨rfl, rfl⟩))), hsl⟩
   · clear hsg;go_wp2_with fail;go_meet;case rel => exact ⟨l0, false, rfl, hid (RdHead.mk' rfl (.inl ⟨rfl, rfl⟩)), hl0⟩
  case rest =>
   obtain ⟨s, ng, rfl, hH, hl⟩ := hcut;have hz := str_size s;clear hz0 hsg;rename_i b0 b1 b2 b3 b4 b5 b6 b7 b8 b9 b10 b11 b12 b13 b14 b15 b16 b17 b18 b19 b20 b21 b22 b23 b24 b25 b26 b27 b28 b29 b30 b31 b32 b33 b34 b35 b36 b37 b38 b39 b40 b41 b42 b43 b44 b45 b46 b47 b48 b49 b50 b51 b52 b53 b54 b55 b56 b57 b58 b59 b60 b61 b62 b63 b64 b65 b66 b67 b68 b69 b70 b71 b72 b73 b74 b75 b76 b77 b78 b79 b80 b81 b82 b83 b84 b85 b86 b87 b88 b89 b90 b91 b92 b93 b94 b95 b96 b97;clear b0 b1 b2 b3 b4 b5 b6 b7 b8 b9 b10 b11 b12 b13 b14 b15 b16 b17 b18 b19 b20 b21 b22 b23 b24 b25 b26 b27 b28 b29 b30 b31 b32 b33 b34 b35 b36 b37 b38 b39 b40 b41 b42 b43 b44 b45 b46 b47 b48 b49 b50 b51 b52 b53 b54 b55 b56 b57 b58 b59 b60 b61 b62 b63 b64 b65 b66 b67 b68 b69 b70 b71 b72 b73 b74 b75 b76 b77 b78 b79 b80 b81 b82 b83 b84 b85 b86 b87 b88 b89 b90 b91 b92 b93 b94 b95 b96 b97;go_wp2_with fail;obtain ⟨pre, hS1, hS2, hR1, hV1, hF0⟩ := hH.out;have HSG : Hid (l0 = pre ++ s ∧ SgnOk pre ng) := hid ⟨hS1, hS2⟩;have HV1 := hid hV1; have HR1 := hid hR1; have HF0 := hid hF0;clear hS1 hS2 hR1 hF0 hH;go_loopw [5, 6, 7, 8] (fun ia fg bh pt wr => ∃ (k f h : Nat) (a b : List UInt8) (p : Bool) (A : Option Addr) (n c : Nat), k ≤ s.length ∧ f ≤ 60 ∧ h ≤ 60 ∧ ia = .int .i64 k ∧ fg = .int .i64 f ∧ bh = .int .i64 h ∧ pt = .bool p ∧ Hid (f = a.length + b.length ∧ h = b.length) ∧ Hid (RdAt w w.heap.size ng s k a b p A n c wr)) (fun ia _ _ _ _ => s.length - (intOf ia).toNat);case atStart => exact ⟨0, 0, 0, [], [], false, none, 0, 0, Nat.zero_le _, by omega, by omega, rfl, rfl, rfl, rfl, hid ⟨rfl, rfl⟩, hid (RdAt.start hV1 HR1.out HF0.out)⟩
   case round =>
    obtain ⟨k, f, h, a, b, p, A, n, c, hk, hf, hh, rfl, rfl, rfl, rfl, hfh, hRD⟩ := hrel;clear hV1 HV1 HR1 HF0;have hlen := hRD.out.len hk;have hfk : f ≤ k := by have := hfh.out; omega
    by_cases hlt : k < s.length
    · obtain ⟨x, hx⟩ : ∃ x, s[k]? = some x := ⟨s[k], List.getElem?_eq_getElem hlt⟩
      have hlt' : k < (ByteArray.mk s.toArray).size := by rw [str_size]; exact hlt
      have hgk := str_get s k x hx hlt';have hlz : (k : Int) < (s.length : Int) := by omega
      by_cases hdig : 48 ≤ x.toNat ∧ x.toNat ≤ 57
      · have q1 : (48 : Int) ≤ x.toNat := by omega
        have q2 : (x.toNat : Int) ≤ 57 := by omega
        have q46 : ((x.toNat : Int) == 46) = false := beq_eq_false_iff_ne.2 (by omega);have HVAL := hid (hRD.out.val hk hl);have HK : Hid (∀ W', Fr NoB wr W' → W'.cell? ⟨w.heap.size + 1, 1, none⟩ = some (.slice A n c) ∧ W'.frozen? ⟨w.heap.size + 1, 1, none⟩ = false) := hid (fun W' hF => by
         have hB := hF.blk hRD.out.2.2.2.2.2.1 (fun h => h);exact ⟨by rw [blk_cell hB]; rfl, blk_frozen hB _⟩)
        have HFd : Hid (Fr NoB wr wr.drew) := hid (Fr.refl _ _).drew;obtain ⟨k1, g1⟩ := HK.out wr (Fr.refl _ _);obtain ⟨k1d, g1d⟩ := HK.out wr.drew HFd.out;have hW2 : w.heap.size + 2 ≤ wr.heap.size := by have := blk_lt hRD.out.2.2.2.2.2.1; omega
        have HW2 := hid hW2;have S10 : Hid (∀ W', Calls Tryz.prog 21 #[.int .i64 10] W' (ListRes W' (digs 10))) := hid (fun W' => smallC 10 (by omega) W');have SD : Hid (∀ W', Calls Tryz.prog 21 #[.int .i64 ((x.toNat : Int) - 48)] W' (ListRes W' (digs (x.toNat - 48)))) := hid (fun W' => by
         have := smallC (x.toNat - 48) (by omega) W';rwa [show ((x.toNat - 48 : Nat) : Int) = (x.toNat : Int) - 48 by omega] at this)
        have HM : Hid (∀ (W' : World) (B : Option Addr) (m d : Nat), Fr NoB wr W' → CN W' B m d (digs 10) → Calls Tryz.prog 20 #[.slice A n c, .slice B m d] W' (ListRes W' (digs (decVal (a ++ b) * 10)))) := hid (fun W' B m d hF hC =>
         mulC (decVal (a ++ b)) 10 (by omega) (by omega) (by have := HVAL.out; omega) A B n c m d W' (hRD.out.2.2.2.2.1.cn.fr hF) hC)
        have HA : Hid (∀ (W' : World) (B C : Option Addr) (m d m' d' : Nat), CN W' B m d (digs (decVal (a ++ b) * 10)) → CN W' C m' d' (digs (x.toNat - 48)) → Calls Tryz.prog 19 #[.slice B m d, .slice C m' d'] W' (ListRes W' (digs (decVal (a ++ b) * 10 + (x.toNat - 48))))) := hid (fun W' B C m d m' d' h1 h2 =>
         addC _ _ (by
          have h3 := HVAL.out;have h4 : (digs (decVal (a ++ b) * 10)).length ≤ 21 := by
           refine digs_length_le 21 _ ?_;have h5 := bval_lt _ (digs_lt (decVal (a ++ b)));rw [bval_digs] at h5;have h6 : 65536 ^ (digs (decVal (a ++ b))).length ≤ 65536 ^ 20 := Nat.pow_le_pow_right (by omega) h3;rw [Nat.pow_succ];omega
          omega) (by
          have : (digs (x.toNat - 48)).length ≤ 1 := digs_length_le 1 _ (by omega);omega) B C m d m' d' W' h1 h2)
        have u8w : IntKind.u8.wrap ((x.toNat : Int) - 48) = (x.toNat : Int) - 48 := by rw [u8_wr]; omega
        have i64w : IntKind.i64.wrap ((x.toNat : Int) - 48) = (x.toNat : Int) - 48 := IntWalk.i64_in _ (by omega);have HDIG := hid hdig; have HX1 := hid hx; have HLT := hid hlt;clear hdig hx hlen hW2 hfk hlt;go_wp2_with fail;go_region_with (first
         | (go_at_call 21; (with_reducible refine (S10.out _).mono ?_); rintro e w1 ⟨A1, n1, c1, rfl, hC1, hF1⟩; have HC1 := hid hC1; have HF1 := hid (HFd.out.trans hF1 (fun _ _ h => h)); obtain ⟨k1a, g1a⟩ := HK.out w1 HF1.out; clear hC1 hF1)
         | (go_at_call 20; (with_reducible refine (HM.out _ _ _ _ HF1.out HC1.out.cn).mono ?_); rintro e w2 ⟨A2, n2, c2, rfl, hC2, hF2⟩; have HC2 := hid hC2; have HF2 := hid (HF1.out.trans hF2 (fun _ _ h => h)); obtain ⟨k1b, g1b⟩ := HK.out w2 HF2.out; clear hC2 hF2)
         | (go_at_call 21; (with_reducible refine (SD.out _).mono ?_); rintro e w3 ⟨A3, n3, c3, rfl, hC3, hF3⟩; have HC3 := hid hC3; have HG3 := hid hF3; have HF3 := hid (HF2.out.trans hF3 (fun _ _ h => h)); obtain ⟨k1c, g1c⟩ := HK.out w3 HF3.out; clear hC3 hF3)
         | (go_at_call 19; (with_reducible refine (HA.out _ _ _ _ _ _ _ (HC2.out.cn.fr HG3.out) HC3.out.cn).mono ?_); rintro e w4 ⟨A4, n4, c4, rfl, hC4, hF4⟩; have HC4 := hid hC4; have HF4 := hid (HF3.out.trans hF4 (fun _ _ h => h)); obtain ⟨k1e, g1e⟩ := HK.out w4 HF4.out; clear hC4 hF4))
        all_goals
         have HRn := hid (RdAt.digit hRD.out HX1.out HDIG.out HF4.out (HC4.out.lower (by have := HF3.out.size; have := HW2.out; omega)) (Nat.le_refl _));have hlt := HLT.out;have HFK : Hid (f + 1 ≤ 60) := hid (by have := hRD.out.len hk; have := hfh.out; omega);have HHK : Hid (h + 1 ≤ 60) := hid (by have := hRD.out.len hk; have := hfh.out; omega);have hfk1 := HFK.out;have hhk1 := HHK.out;clear HC1 HC2 HC3 HC4 HF1 HF2 HF3 HF4 HG3 k1 k1d k1a k1b k1c k1e g1 g1d g1a g1b g1c g1e HM HA SD S10 HK HFd HW2 u8w i64w HVAL;cases p;· go_wp2_with fail;exact ⟨⟨k + 1, f + 1, h, _, _, false, A4, n4, c4, by omega, by omega, by omega, by go_num, by go_num, rfl, rfl, hid (by have := hfh.out; simp; omega), HRn⟩, by simp [intOf]; omega⟩
         · go_wp2_with fail;exact ⟨⟨k + 1, f + 1, h + 1, _, _, true, A4, n4, c4, by omega, by omega, by omega, by go_num, by go_num, by go_num, rfl, hid (by have := hfh.out; simp; omega), HRn⟩, by simp [intOf]; omega⟩
      · obtain ⟨⟨k0, k1, k2⟩, ⟨r0, r1, r2⟩, ⟨g0, g1, g2⟩, s0, s1, s2⟩ := hRD.out.cells;have HFR := hid hRD.out.2.2.2.2.2.2.2;by_cases h46 : x = 46
        · subst h46;cases p
          · obtain ⟨hb, hRn⟩ := hRD.out.dot hx;have HRn := hid hRn;clear hRn hx hdig hb k0 k1 k2 r0 r1 r2 g0 g1 g2 s0 s1 s2;go_wp2_with fail;exact ⟨⟨k + 1, f, h, a, b, true, A, n, c, by omega, hf, hh, by go_num, rfl, rfl, rfl, hfh, HRn⟩, by simp [intOf]; omega⟩
          · have hne : ((k : Int) == (s.length : Int)) = false := beq_eq_false_iff_ne.2 (by omega);clear hx hdig hRD hfh;by_cases f0 : f = 0
            · have f0z : ((f : Int) == 0) = true := by simp [f0]
              go_wp2_with fail;exact bodyPost_ret (v := .tuple #[.agg #[.bool ng, .slice A n c, .int .i64 0], .bool false]) (by simp [results, Tryz.results8, go_sem, r0, r1, r2, k0, k1, k2]) rfl (readEnd_no _ _ _ _ _ (by repeat (first | exact HFR.out | (refine Fr.setCell ?_ (fun h => by (dsimp only at h; omega)) _))))
            · have f0z : ((f : Int) == 0) = false := beq_eq_false_iff_ne.2 (by omega);go_wp2_with fail;exact bodyPost_ret (v := .tuple #[.agg #[.bool ng, .slice A n c, .int .i64 (-(h : Int))], .bool false]) (by simp [results, Tryz.results8, go_sem, r0, r1, r2, k0, k1, k2]) rfl (readEnd_no _ _ _ _ _ (by repeat (first | exact HFR.out | (refine Fr.setCell ?_ (fun h => by (dsimp only at h; omega)) _))))
        · have hne : ((k : Int) == (s.length : Int)) = false := beq_eq_false_iff_ne.2 (by omega);have q46 : ((x.toNat : Int) == 46) = false := beq_eq_false_iff_ne.2 (fun hh => h46 (UInt8.toNat_inj.1 (by show x.toNat = 46; omega)));have hcase : (x.toNat : Int) < 48 ∨ (57 : Int) < x.toNat := by omega
          rcases hcase with hxs | hxs
          · have qa : ¬ (48 : Int) ≤ x.toNat := by omega
            have q1 : ((x.toNat : Int) != 101) = true := by rw [bne_iff_ne]; omega
            have q2 : ((x.toNat : Int) != 69) = true := by rw [bne_iff_ne]; omega
            clear hx hdig hRD hfh h46;by_cases f0 : f = 0
            · have f0z : ((f : Int) == 0) = true := by simp [f0]
              go_wp2_with fail;exact bodyPost_ret (v := .tuple #[.agg #[.bool ng, .slice A n c, .int .i64 0], .bool false]) (by simp [results, Tryz.results8, go_sem, r0, r1, r2, k0, k1, k2]) rfl (readEnd_no _ _ _ _ _ (by repeat (first | exact HFR.out | (refine Fr.setCell ?_ (fun h => by (dsimp only at h; omega)) _))))
            · have f0z : ((f : Int) == 0) = false := beq_eq_false_iff_ne.2 (by omega);go_wp2_with fail;exact bodyPost_ret (v := .tuple #[.agg #[.bool ng, .slice A n c, .int .i64 (-(h : Int))], .bool false]) (by simp [results, Tryz.results8, go_sem, r0, r1, r2, k0, k1, k2]) rfl (readEnd_no _ _ _ _ _ (by repeat (first | exact HFR.out | (refine Fr.setCell ?_ (fun h => by (dsimp only at h; omega)) _))))
          · have qa : (48 : Int) ≤ x.toNat := by omega
            have qb : ¬ (x.toNat : Int) ≤ 57 := by omega
            by_cases he : x = 101 ∨ x = 69
            · by_cases f0 : f = 0
              · have f0z : ((f : Int) == 0) = true := by simp [f0]
                clear hx hdig hRD hfh h46;go_wp2_with fail;exact bodyPost_ret (v := .tuple #[.agg #[.bool ng, .slice A n c, .int .i64 0], .bool false]) (by simp [results, Tryz.results8, go_sem, r0, r1, r2, k0, k1, k2]) rfl (readEnd_no _ _ _ _ _ (by repeat (first | exact HFR.out | (refine Fr.setCell ?_ (fun h => by (dsimp only at h; omega)) _))))
              · have f0z : ((f : Int) == 0) = false := beq_eq_false_iff_ne.2 (by omega);have HEX : Hid (∀ W', Calls Tryz.prog 22 #[.agg #[.bool ng, .slice A n c, .int .i64 (-(h : Int))], .string ⟨(s.drop (k + 1)).toArray⟩] W' (ExpEnd W' ng (.slice A n c) (-(h : Int)) (s.drop (k + 1)))) := hid (fun W' => specExponent ng A n c (-(h : Int)) (s.drop (k + 1)) W' (by omega) (by omega) (by rw [List.length_drop]; omega));have hdr : (ByteArray.mk s.toArray).extract (k + 1) s.length = ⟨(s.drop (k + 1)).toArray⟩ := str_drop s (k + 1);have hw1 : IntKind.i64.wrap ((k : Int) + 1) = (k : Int) + 1 := IntWalk.i64_in _ (by omega);have hw2 : ((k : Int) + 1).toNat = k + 1 := by omega
                have hw3 : (k : Int) + 1 ≤ s.length := by omega
                have HNUM : Hid (∀ e, ExTail (s.drop (k + 1)) e → NumText l0 ng (a ++ b) (-(h : Int) + e)) := hid (fun e he' => by
                 have h1 := hRD.out.num HSG.out.1 HSG.out.2 (ex := x :: s.drop (k + 1)) (by
                  have h2 := List.getElem?_eq_getElem hlt;rw [hx] at h2;rw [List.drop_eq_getElem_cons hlt, Option.some.inj h2]) (exOk_of he he') (by have := hfh.out; omega)
                 rwa [show e - (b.length : Int) = -(h : Int) + e by have := hfh.out; omega] at h1)
                have HB1 : Hid (BlkAt (wr.setCell ⟨w.heap.size + 1, 2, none⟩ (.int .i64 (-(h : Int)))) (w.heap.size + 1) #[.bool ng, .slice A n c, .int .i64 (-(h : Int))] 25) := hid (blk_set hRD.out.2.2.2.2.2.1 2 _);have HB0 : Hid (BlkAt (wr.setCell ⟨w.heap.size + 1, 2, none⟩ (.int .i64 (-(h : Int)))) w.heap.size #[.bool false, .slice none 0 0, .int .i64 0] 25) := hid (blk_far (p := ⟨w.heap.size + 1, 2, none⟩) hRD.out.2.2.2.2.2.2.1 (by show w.heap.size ≠ w.heap.size + 1; omega) _);have HC1 : Hid (CB (wr.setCell ⟨w.heap.size + 1, 2, none⟩ (.int .i64 (-(h : Int)))) (w.heap.size + 2) A n c (digs (decVal (a ++ b)))) := hid (hRD.out.2.2.2.2.1.far (p := ⟨w.heap.size + 1, 2, none⟩) (by show w.heap.size + 1 < w.heap.size + 2; omega) _);have HFw : Hid (Fr NoB w (wr.setCell ⟨w.heap.size + 1, 2, none⟩ (.int .i64 (-(h : Int))))) := hid (Fr.setCell (p := ⟨w.heap.size + 1, 2, none⟩) HFR.out (fun h => by have h : w.heap.size + 1 < w.heap.size := h; omega) _);have HCASE := hid he;clear hx hdig hRD hfh h46 he hlt;rcases HCASE.out with rfl | rfl;all_goals
                 go_wp2_with fail;clear k0 k1 k2 r0 r1 r2 g0 g1 g2 s0 s1 s2 HFR;generalize (wr.setCell ⟨w.heap.size + 1, 2, none⟩ (.int .i64 (-(h : Int)))) = W1 at *
                 have HK5 : Hid (∀ W', Fr NoB W1 W' → (W'.cell? ⟨w.heap.size, 0, none⟩ = some (.bool false) ∧ W'.cell? ⟨w.heap.size, 1, none⟩ = some (.slice none 0 0) ∧ W'.cell? ⟨w.heap.size, 2, none⟩ = some (.int .i64 0)) ∧ W'.frozen? ⟨w.heap.size, 0, none⟩ = false ∧ W'.frozen? ⟨w.heap.size, 1, none⟩ = false ∧ W'.frozen? ⟨w.heap.size, 2, none⟩ = false) := hid (fun W' hF => by
                  have hB := hF.blk HB0.out (fun h => h);exact ⟨⟨by rw [blk_cell hB]; rfl, by rw [blk_cell hB]; rfl, by rw [blk_cell hB]; rfl⟩, blk_frozen hB _, blk_frozen hB _, blk_frozen hB _⟩)
                 have k0 : W1.cell? ⟨w.heap.size + 1, 0, none⟩ = some (.bool ng) := by rw [blk_cell HB1.out]; rfl
                 have k1 : W1.cell? ⟨w.heap.size + 1, 1, none⟩ = some (.slice A n c) := by rw [blk_cell HB1.out]; rfl
                 have k2 : W1.cell? ⟨w.heap.size + 1, 2, none⟩ = some (.int .i64 (-(h : Int))) := by rw [blk_cell HB1.out]; rfl
                 have d0 : W1.drew.cell? ⟨w.heap.size + 1, 0, none⟩ = some (.bool ng) := k0;have d1 : W1.drew.cell? ⟨w.heap.size + 1, 1, none⟩ = some (.slice A n c) := k1;have d2 : W1.drew.cell? ⟨w.heap.size + 1, 2, none⟩ = some (.int .i64 (-(h : Int))) := k2;have HFd : Hid (Fr NoB W1 W1.drew) := hid (Fr.refl _ _).drew;go_region_with (first | (go_at_call 22; (with_reducible refine (HEX.out _).mono ?_); rintro e w5 ⟨hF5, x5, ok5, rfl, hok⟩; have HF5 := hid (HFd.out.trans hF5 (fun _ _ h => h)); have HOK := hid hok; obtain ⟨⟨r0, r1, r2⟩, s0, s1, s2⟩ := HK5.out w5 HF5.out; clear hF5 hok))
                all_goals
                 have HFR := hid (HFw.out.trans HF5.out (fun _ _ h => h));have hCB := hid (HC1.out.fr HF5.out);go_wp2_with fail;exact bodyPost_ret (v := .tuple #[.agg #[.bool ng, .slice A n c, .int .i64 x5], .bool ok5]) (by simp [results, Tryz.results8, go_sem, r0, r1, r2]) rfl ⟨(by repeat (first | exact HFR.out | (refine Fr.setCell ?_ (fun h => by (dsimp only at h; omega)) _))), ng, A, n, c, x5, ok5, rfl, fun hk5 => by
                  obtain ⟨e5, h5, h6⟩ := HOK.out hk5;exact ⟨a ++ b, by rw [h6]; exact HNUM.out e5 h5, CB.cn (B := w.heap.size + 2) (by repeat (first | exact hCB.out | (refine CB.far ?_ (by (dsimp only; omega)) _)))⟩⟩
            · have q1 : ((x.toNat : Int) != 101) = true := bne_iff_ne.2 (fun hh => he (.inl (UInt8.toNat_inj.1 (by show x.toNat = 101; omega))));have q2 : ((x.toNat : Int) != 69) = true := bne_iff_ne.2 (fun hh => he (.inr (UInt8.toNat_inj.1 (by show x.toNat = 69; omega))));clear hx hdig hRD hfh h46 he;by_cases f0 : f = 0
              · have f0z : ((f : Int) == 0) = true := by simp [f0]
                go_wp2_with fail;exact bodyPost_ret (v := .tuple #[.agg #[.bool ng, .slice A n c, .int .i64 0], .bool false]) (by simp [results, Tryz.results8, go_sem, r0, r1, r2, k0, k1, k2]) rfl (readEnd_no _ _ _ _ _ (by repeat (first | exact HFR.out | (refine Fr.setCell ?_ (fun h => by (dsimp only at h; omega)) _))))
              · have f0z : ((f : Int) == 0) = false := beq_eq_false_iff_ne.2 (by omega);go_wp2_with fail;exact bodyPost_ret (v := .tuple #[.agg #[.bool ng, .slice A n c, .int .i64 (-(h : Int))], .bool false]) (by simp [results, Tryz.results8, go_sem, r0, r1, r2, k0, k1, k2]) rfl (readEnd_no _ _ _ _ _ (by repeat (first | exact HFR.out | (refine Fr.setCell ?_ (fun h => by (dsimp only at h; omega)) _))))
    · obtain rfl : k = s.length := by omega
      obtain ⟨⟨k0, k1, k2⟩, ⟨r0, r1, r2⟩, ⟨g0, g1, g2⟩, s0, s1, s2⟩ := hRD.out.cells;have HFR := hid hRD.out.2.2.2.2.2.2.2;have hge : ¬ ((s.length : Int) < (s.length : Int)) := by omega
      have hCB := hid hRD.out.2.2.2.2.1;have HN : Hid (f ≠ 0 → NumText l0 ng (a ++ b) (0 - (b.length : Int))) := hid (fun hf0 => hRD.out.num HSG.out.1 HSG.out.2 (List.drop_of_length_le (Nat.le_refl _)) (.inl ⟨rfl, rfl⟩) (by have := hfh.out; omega));have HB : Hid (h = b.length) := hid hfh.out.2;clear hRD hfh hk hlt hlen hfk;by_cases f0 : f = 0
      · have f0z : ((f : Int) == 0) = true := by simp [f0]
        go_wp2_with fail;exact bodyPost_ret (v := .tuple #[.agg #[.bool ng, .slice A n c, .int .i64 0], .bool false]) (by simp [results, Tryz.results8, go_sem, r0, r1, r2, k0, k1, k2]) rfl (readEnd_no _ _ _ _ _ (by repeat (first | exact HFR.out | (refine Fr.setCell ?_ (fun h => by (dsimp only at h; omega)) _))))
      · have f0z : ((f : Int) == 0) = false := beq_eq_false_iff_ne.2 (by omega);have HN2 := hid (HN.out f0);go_wp2_with fail;refine bodyPost_ret (v := .tuple #[.agg #[.bool ng, .slice A n c, .int .i64 (-(h : Int))], .bool true]) (by simp [results, Tryz.results8, go_sem, r0, r1, r2, k0, k1, k2]) rfl ⟨(by repeat (first | exact HFR.out | (refine Fr.setCell ?_ (fun h => by (dsimp only at h; omega)) _))), ng, A, n, c, _, true, rfl, fun _ => ⟨a ++ b, ?_, CB.cn (B := w.heap.size + 2) (by repeat (first | exact hCB.out | (refine CB.far ?_ (by (dsimp only; omega)) _)))⟩⟩;rw [HB.out];have := HN2.out;rwa [Int.zero_sub] at this
end Go.Proofs.YteokhhepnoelhaaGreatDoor
