/-
  
-/
import Derived.Test.YteokhhepnoelhaaGreatDoorXad
import Derived.Test.YteokhhepnoelhaaGreatDoorXaq
import Derived.Test.YteokhhepnoelhaaGreatDoorXag
import Derived.LaidEqlPtr
set_option linter.unusedVariables false
set_option linter.unusedSimpArgs false
namespace Go.Proofs.YteokhhepnoelhaaGreatDoor
open Go.RowKit
theorem results_tmp4 {fn : Go.Func} {t u v x : Tmp} (h : fn.results = #[.tmp t, .tmp u, .tmp v, .tmp x]) (tmps : Array Value) (P : Program) (w : World) :
 (results fn tmps).run P w = .ok (.tuple #[tmps.getD t undef, tmps.getD u undef, tmps.getD v undef, tmps.getD x undef]) w := by
 simp [results, h]
def decVal (l : List UInt8) : Nat := l.foldl (fun n b => n * 10 + (b.toNat - 48)) 0
theorem decVal_snoc (l : List UInt8) (b : UInt8) : decVal (l ++ [b]) = decVal l * 10 + (b.toNat - 48) := by simp [decVal]
def Digs (l : List UInt8) : Prop := ∀ b ∈ l, 48 ≤ b.toNat ∧ b.toNat ≤ 57
theorem foldl_lt (l : List UInt8) (h : Digs l) : ∀ n : Nat, l.foldl (fun n b => n * 10 + (b.toNat - 48)) n < (n + 1) * 10 ^ l.length := by
 induction l with
 | nil => intro n; simp
 | cons b l ih =>
  intro n;have hb := h b (by simp);have ih := ih (fun u hu => h u (by simp [hu])) (n * 10 + (b.toNat - 48));rw [List.foldl_cons, List.length_cons, Nat.pow_succ];refine Nat.lt_of_lt_of_le ih ?_;rw [Nat.mul_comm (10 ^ l.length) 10, ← Nat.mul_assoc];exact Nat.mul_le_mul_right _ (by omega)
theorem decVal_lt (l : List UInt8) (h : Digs l) : decVal l < 10 ^ l.length := by
 have := foldl_lt l h 0;simpa [decVal] using this
def EofAt (w : World) (a : Addr) : Prop := w.cell? ⟨5, 0, none⟩ = some (.iface 147 (.pointer (some a)))
theorem Tryz.info147 : ∃ i, Tryz.prog.info? 147 = some i ∧ i.comparable = true := by
 have h : (Tryz.prog.info? 147).map (fun i => i.comparable) = some true := by kernel_rfl
 obtain ⟨j, hj, hs⟩ := Option.map_eq_some_iff.1 h;exact ⟨j, hj, hs⟩
theorem Tryz.info149 : ∃ i, Tryz.prog.info? 149 = some i := by
 have h : (Tryz.prog.info? 149).map (fun i => i.size) = some 1 := by kernel_rfl
 obtain ⟨j, hj, _⟩ := Option.map_eq_some_iff.1 h;exact ⟨j, hj⟩
theorem eql55_same (a : Addr) (w : World) : (binOp .eql 55 (.iface 147 (.pointer (some a))) (.iface 147 (.pointer (some a)))).run Tryz.prog w = .ok (.bool true) w := by
 obtain ⟨i, hi, hc⟩ := Tryz.info147;obtain ⟨j, hj⟩ := Tryz.info149;exact run_eql_iface_ptr_same w a Tryz.underlying55 Tryz.underlying147 hi hc hj
theorem neq55_same (a : Addr) (w : World) : (binOp .neq 55 (.iface 147 (.pointer (some a))) (.iface 147 (.pointer (some a)))).run Tryz.prog w = .ok (.bool false) w := by
 obtain ⟨i, hi, hc⟩ := Tryz.info147;obtain ⟨j, hj⟩ := Tryz.info149;simp only [binOp];simp [Op.equal, Op.maxDepth, run_equalIn_iface_ptr_same w 9998 a Tryz.underlying55 Tryz.underlying147 hi hc hj]
def ScanAt (R : Nat) (l : List UInt8) (a : Addr) (w0 : World) (k i0 : Nat) (d Z : Nat) (z ch er : Value) (wr : World) : Prop :=
 k ≤ l.length ∧ i0 < 19 ∧ d < 10 ^ i0 ∧ Z * 10 ^ i0 + d = decVal (l.take k) ∧ NatAt wr z (limbs Z) ∧ Fr (fun i => i = R) w0 wr ∧ (∀ g, natBlk z = some g → w0.heap.size ≤ g) ∧
 ((∃ b : UInt8, l[k]? = some b ∧ ch = .int .u8 b.toNat ∧ er = .nilIface ∧ ReaderAt wr R l ((k : Int) + 1) (-1)) ∨ (k = l.length ∧ ch = .int .u8 0 ∧ er = .iface 147 (.pointer (some a)) ∧ ReaderAt wr R l l.length (-1)))
def ScanEnd (w : World) (R : Nat) (l : List UInt8) (e : Ending) (w' : World) : Prop :=
 ∃ v, e = .returned (.tuple #[v, .int .i64 10, .int .i64 l.length, .nilIface]) ∧ NatAt w' v (limbs (decVal l)) ∧ ReaderAt w' R l l.length (-1) ∧ Fr (fun i => i = R) w w' ∧ ∀ g, natBlk v = some g → w.heap.size ≤ g
def NextIs (R : Nat) (l : List UInt8) (a : Addr) (k : Nat) (w : World) (e : Ending) (w' : World) : Prop :=
 ∃ ch er, e = .returned (.tuple #[ch, er]) ∧ Fr (fun i => i = R) w w' ∧
  ((∃ b : UInt8, l[k]? = some b ∧ ch = .int .u8 b.toNat ∧ er = .nilIface ∧ ReaderAt w' R l ((k : Int) + 1) (-1)) ∨ (k = l.length ∧ ch = .int .u8 0 ∧ er = .iface 147 (.pointer (some a)) ∧ ReaderAt w' R l l.length (-1)))
theorem readNext (R : Nat) (l : List UInt8) (a : Addr) (k : Nat) (p : Int) (w : World) (hk : k ≤ l.length) (hR : ReaderAt w R l k p) (hE : EofAt w a) (h5 : 5 ≠ R) (hl : l.length ≤ 1000000) :
 Calls Tryz.prog 349 #[.pointer (some ⟨R, 0, none⟩)] w (NextIs R l a k w) := by
 by_cases h : k = l.length;· subst h;refine (readByte_end R l p _ w hR hE h5 hl).mono ?_;rintro e w' ⟨rfl, h1, h2⟩;exact ⟨_, _, rfl, h2, .inr ⟨rfl, rfl, rfl, h1⟩⟩
 · have hb : l[k]? = some (l[k]'(by omega)) := List.getElem?_eq_getElem (by omega);refine (readByte_in R l k p _ w hR hb hl).mono ?_;rintro e w' ⟨rfl, h1, h2⟩;exact ⟨_, _, rfl, h2, .inl ⟨_, hb, rfl, rfl, h1⟩⟩
theorem decVal_take (l : List UInt8) (k : Nat) (b : UInt8) (hb : l[k]? = some b) : decVal (l.take (k + 1)) = decVal (l.take k) * 10 + (b.toNat - 48) := by
 rw [List.take_add_one, hb];exact decVal_snoc _ _
theorem scan_acc {Z i0 d V c : Nat} (h : Z * 10 ^ i0 + d = V) (hd : d < 10 ^ i0) (hc : c ≤ 9) : Z * 10 ^ (i0 + 1) + (d * 10 + c) = V * 10 + c ∧ d * 10 + c < 10 ^ (i0 + 1) := by
 subst h;rw [Nat.pow_succ, Nat.add_mul, Nat.mul_assoc];omega
theorem scan_small {i0 d c : Nat} (hi : i0 < 19) (hd : d < 10 ^ i0) (hc : c ≤ 9) : d * 10 + c < 10000000000000000000 := by
 have : 10 ^ i0 ≤ 10 ^ 18 := Nat.pow_le_pow_right (by omega) (by omega);have e : (10 : Nat) ^ 18 = 1000000000000000000 := by decide
 omega
theorem scan_full {Z d V c : Nat} (h : Z * 10 ^ 18 + d = V) : (Z * 10000000000000000000 + (d * 10 + c)) * 10 ^ 0 + 0 = V * 10 + c := by
 have e : (10 : Nat) ^ 18 = 1000000000000000000 := by decide
 rw [e] at h;rw [Nat.pow_zero];omega
theorem limbs_len_of (l : List UInt8) (hd : Digs l) (k i0 d Z : Nat) (h : Z * 10 ^ i0 + d = decVal (l.take k)) (hl : l.length ≤ 250) : (limbs Z).length ≤ 900 := by
 have h1 : decVal (l.take k) < 10 ^ (l.take k).length := decVal_lt _ (fun b hb => hd b (List.mem_of_mem_take hb));have h2 : (l.take k).length ≤ 250 := by rw [List.length_take]; omega
 have h3 : (10 : Nat) ^ (l.take k).length ≤ 10 ^ 250 := Nat.pow_le_pow_right (by omega) h2;have h4 : (10 : Nat) ^ 250 ≤ WB ^ 250 := Nat.pow_le_pow_left (by decide) 250;have h5 : Z ≤ Z * 10 ^ i0 := Nat.le_mul_of_pos_right _ (Nat.pow_pos (by omega));have := limbs_length_le 250 Z (by omega);omega
theorem ReaderAt_lt {w : World} {R : Nat} {l : List UInt8} {i p : Int} (h : ReaderAt w R l i p) : R < w.heap.size := blk_lt h
set_option maxRecDepth 100000 in
set_option maxHeartbeats 1000000 in
theorem natScan (R : Nat) (l : List UInt8) (a : Addr) (w : World) (hR : ReaderAt w R l 0 (-1)) (hE : EofAt w a) (h5 : 5 ≠ R) (hd : Digs l) (hne : l ≠ []) (hl : l.length ≤ 250) :
 Calls Tryz.prog 194 #[.slice none 0 0, .iface 184 (.pointer (some ⟨R, 0, none⟩)), .int .i64 10, .bool false] w (ScanEnd w R l) := by
 obtain ⟨b0, hb0⟩ : ∃ b, l[0]? = some b := by
  cases l with
  | nil => exact absurd rfl hne
  | cons b l => exact ⟨b, rfl⟩
 have HB := hid hb0; have HD := hid hd; have HE := hid hE; have HNE := hid hne; have HR := hid hR;have H1 := hid (readByte_in R l 0 (-1) b0 w hR hb0 (by omega));clear hR hb0 hd hE hne;go_enter Tryz.func194, Tryz.ntmps194;go_wp2_with fail;refine H1.out.mono ?_;rintro e w1 ⟨rfl, hR1, hF1⟩;have HR1 := hid hR1; have HF1 := hid hF1;clear hR1 hF1 H1;go_wp2_with (go_at_call 184; refine (maxPow10 _).mono ?_; rintro e w2 ⟨rfl, rfl⟩);go_loopw [0, 3, 10, 11, 13, 14, 15, 20, 21, 22] (fun z f3 cnt er pv iv ch di ii dp wr => ∃ (k i0 d Z : Nat) (p : Int) (zv chv erv : Value), zv = z ∧ chv = ch ∧ erv = er ∧ f3 = .bool false ∧ iv = .bool false ∧ dp = .int .i64 (-1) ∧ cnt = .int .i64 k ∧ pv = .int .i32 p ∧ (p = 46 ∨ p = 48) ∧ di = .int .u64 (d : Nat) ∧ ii = .int .i64 i0 ∧ Hid (ScanAt R l a w k i0 d Z zv chv erv wr)) (fun _ _ cnt _ _ _ _ _ _ _ _ => l.length - (intOf cnt).toNat);case atStart => exact ⟨0, 0, 0, 0, 46, _, _, _, rfl, rfl, rfl, rfl, rfl, rfl, rfl, rfl, .inl rfl, rfl, rfl, hid ⟨Nat.zero_le _, by omega, by simp, by simp [decVal], by rw [limbs_zero]; exact NatAt.nil _, HF1.out, (fun g h => by cases h), .inl ⟨b0, HB.out, rfl, rfl, HR1.out⟩⟩⟩
 case round =>
  obtain ⟨k, i0, d, Z, p, z, ch, er, rfl, rfl, rfl, rfl, rfl, rfl, rfl, rfl, hp, rfl, rfl, hS⟩ := hrel;obtain ⟨hk, hi0, hd10, hdec, hz, hF, hfr, hch⟩ := hS.out;rcases hch with ⟨b, hb, rfl, rfl, hRd⟩ | ⟨hkk, rfl, rfl, hRd⟩
  · obtain ⟨hb48, hb57⟩ := HD.out b (List.mem_of_getElem? hb);have hkl : k < l.length := (List.getElem?_eq_some_iff.1 hb).1;obtain ⟨hacc, hacl⟩ := scan_acc (c := b.toNat - 48) hdec hd10 (by omega);have hsm := scan_small (c := b.toNat - 48) hi0 hd10 (by omega);have hlim := limbs_len_of l HD.out k i0 d Z hdec hl;rw [← decVal_take l k b hb] at hacc;have e1 : ((d * 10 + (b.toNat - 48) : Nat) : Int) = (d : Int) * 10 + ((b.toNat : Int) - 48) := by omega
    have HZ := hid hz; have HF := hid hF; have HFR := hid hfr; have HRd := hid hRd; have HACC := hid hacc; have HACL := hid hacl; have E1 := hid e1; have HDC := hid hdec; have HBB := hid hb; have HD10 := hid hd10; have HLIM := hid hlim;have b1 : ((b.toNat : Int) == 46) = false := by simp; omega
    have b2 : ((b.toNat : Int) == 95) = false := by simp; omega
    have b3 : (48 : Int) ≤ (b.toNat : Int) := by omega
    have b4 : (b.toNat : Int) ≤ 57 := by omega
    have b5 : (d : Int) * 10 + ((b.toNat : Int) - 48) < 10000000000000000000 := by omega
    have b6 : 0 ≤ (d : Int) := by omega
    have bk : (k : Int) ≤ 250 := by omega
    have bi : (i0 : Int) < 19 := by omega
    clear hz hF hfr hRd hacc hacl e1 hdec hb hd10 hS hlim hb48 hb57 hsm;by_cases h18 : i0 = 18
    · subst h18;have HM := hid (natMulAddWW z z (limbs Z) Z 10000000000000000000 (d * 10 + (b.toNat - 48)) wr HZ.out HZ.out (by decide) (by rw [WB_eq]; omega) HLIM.out);rw [E1.out] at HM;have HFU := hid (scan_full (c := b.toNat - 48) HDC.out);rw [← decVal_take l k b HBB.out] at HFU;go_wp2_with (go_at_call 225; refine HM.out.mono ?_; rintro e w2 ⟨z', rfl, hz', hFz, hfz⟩; refine Hid.out ?_);refine hid ?_;have hRl := ReaderAt_lt HR.out;have hzR : ∀ i, natBlk z = some i → w.heap.size ≤ i := HFR.out;have hFw : Fr (fun i => i = R) w w2 := HF.out.trans hFz (fun i hi h => by have := hzR i h; omega);have hR2 : ReaderAt w2 R l ((k : Int) + 1) (-1) := HRd.out.fr hFz (fun h => by have := hzR R h; omega);have hE2 : EofAt w2 a := hFw.cell' HE.out h5;have hfr2 : ∀ g, natBlk z' = some g → w.heap.size ≤ g := fun g hg => by
       rcases hfz g hg with h | h;· exact hzR g h
       · have := HF.out.size; omega
      have HN := hid (readNext R l a (k + 1) (-1) w2 (by omega) hR2 hE2 h5 (by omega));have HZ' := hid hz'; have HFw := hid hFw; have HFR2 := hid hfr2;clear hz' hFz hfz hzR hFw hR2 hE2 hfr2 HM;go_wp2_with (go_at_call 349; refine HN.out.mono ?_; rintro e w3 ⟨ch', er', rfl, hF2, hch2⟩);go_roundw;case rel =>
       refine ⟨k + 1, 0, 0, Z * 10000000000000000000 + (d * 10 + (b.toNat - 48)), 48, _, _, _, rfl, rfl, rfl, rfl, rfl, rfl, by go_num, rfl, .inr rfl, rfl, rfl, hid ⟨by omega, by omega, by simp, HFU.out, ?_, ?_, HFR2.out, hch2⟩⟩;· refine HZ'.out.fr hF2 (fun g hg => ?_);have := HFR2.out g hg;omega
       · exact HFw.out.trans hF2 (fun _ _ h => h)
      case measure => simp [intOf]; omega
    · have bi2 : ((i0 : Int) + 1 == 19) = false := by simp; omega
      have HN := hid (readNext R l a (k + 1) (-1) wr (by omega) HRd.out (HF.out.cell' HE.out h5) h5 (by omega));go_wp2_with (go_at_call 349; refine HN.out.mono ?_; rintro e w2 ⟨ch', er', rfl, hF2, hch2⟩);go_roundw;case rel =>
       refine ⟨k + 1, i0 + 1, d * 10 + (b.toNat - 48), Z, 48, _, _, _, rfl, rfl, rfl, rfl, rfl, rfl, by go_num, rfl, .inr rfl, by rw [E1.out], by go_num, hid ⟨by omega, by omega, HACL.out, HACC.out, ?_, ?_, HFR.out, hch2⟩⟩;· refine HZ.out.fr hF2 (fun g hg => ?_);have := HFR.out g hg;have := ReaderAt_lt HR.out;omega
       · exact HF.out.trans hF2 (fun _ _ h => h)
      case measure => simp [intOf]; omega
  · have hlen : k = l.length := by omega
    have hz0 : decVal (l.take k) = decVal l := by rw [hlen, List.take_length]
    have hlim := limbs_len_of l HD.out k i0 d Z hdec hl;have hk0 : ((k : Int) == 0) = false := by
     have : k ≠ 0 := by rw [hlen]; intro h; exact HNE.out (List.length_eq_zero_iff.1 h)
     simp; omega
    rw [hz0] at hdec;have hEr : wr.cell? ⟨5, 0, none⟩ = some (.iface 147 (.pointer (some a))) := (show EofAt wr a from hF.cell' HE.out h5)
    have HZ := hid hz; have HF := hid hF; have HFR := hid hfr; have HRd := hid hRd; have HDC := hid hdec; have HD10 := hid hd10; have HLIM := hid hlim; have HL := hid hlen;have hq := eql55_same a wr;clear hz hF hfr hRd hdec hd10 hlim hlen hz0 hS;by_cases hi : i0 = 0
    · subst hi;go_wp2_with fail
      ((try simp only [Exit.inBlock, Exit.then]); refine bodyPost_ret (results_tmp4 rfl _ _ _) rfl ?_)
      have e0 : Z * 1 + d = Z := by have : d < 1 := by simpa using HD10.out
                                    omega
      have hh := HDC.out;rw [Nat.pow_zero, e0] at hh;refine ⟨_, by rw [← HL.out]; rfl, by rw [← hh]; exact HZ.out, HRd.out, HF.out, HFR.out⟩
    · have hi' : (0 : Int) < (i0 : Int) := by omega
      have hi19 : (i0 : Int) < 19 := by omega
      have hd19 : (d : Int) < 18446744073709551616 := by have := scan_small (c := 0) (by omega) HD10.out (by omega); omega
      have hp19 : ((10 ^ i0 : Nat) : Int) < 18446744073709551616 := by
       have h1 : 10 ^ i0 ≤ 10 ^ 18 := Nat.pow_le_pow_right (by omega) (by omega);have e : (10 : Nat) ^ 18 = 1000000000000000000 := by decide
       omega
      have HP := hid (natMulAddWW z z (limbs Z) Z (10 ^ i0) d wr HZ.out HZ.out (by rw [WB_eq]; omega) (by rw [WB_eq]; omega) HLIM.out);rw [HDC.out] at HP;have HPW := hid (pow10_any i0 (by omega) wr);generalize 10 ^ i0 = pw at *
      clear hd19 hp19;go_wp2_with (first | (go_at_call 226; refine HPW.out.mono ?_; rintro e w2 ⟨rfl, rfl⟩) | (go_at_call 225; refine HP.out.mono ?_; rintro e w2 ⟨z', rfl, hz', hFz, hfz⟩; refine Hid.out ?_));refine hid ?_;have hRl := ReaderAt_lt HR.out;have hzR : ∀ i, natBlk z = some i → w.heap.size ≤ i := HFR.out;have hFw : Fr (fun i => i = R) w w2 := HF.out.trans hFz (fun i hi h => by have := hzR i h; omega);have hR2 : ReaderAt w2 R l l.length (-1) := HRd.out.fr hFz (fun h => by have := hzR R h; omega);have hfr2 : ∀ g, natBlk z' = some g → w.heap.size ≤ g := fun g hg => by
       rcases hfz g hg with h | h;· exact hzR g h
       · have := HF.out.size; omega
      have A1 := hid hz'; have A2 := hid hR2; have A3 := hid hFw; have A4 := hid hfr2;clear hz' hR2 hFw hfr2 hzR hFz hfz;go_wp2_with fail
      ((try simp only [Exit.inBlock, Exit.then]); refine bodyPost_ret (results_tmp4 rfl _ _ _) rfl ?_)
      refine ⟨_, by rw [← HL.out]; rfl, A1.out, A2.out, A3.out, A4.out⟩
end Go.Proofs.YteokhhepnoelhaaGreatDoor
