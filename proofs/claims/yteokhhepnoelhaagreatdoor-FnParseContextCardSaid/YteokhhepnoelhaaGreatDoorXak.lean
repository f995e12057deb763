/-
  tableExp10; BigInt.Lsh of 1; BigInt.String.
-/
import Derived.Test.YteokhhepnoelhaaGreatDoorXaj
import Derived.Deep.RegionHeld3
set_option linter.unusedVariables false
set_option linter.unusedSimpArgs false
namespace Go.Proofs.YteokhhepnoelhaaGreatDoor
open Go.RowKit
theorem limbs_small {k : Nat} (h0 : k ≠ 0) (h : k < WB) : limbs k = [k] := by
 rw [limbs_pos h0, Nat.mod_eq_of_lt h, Nat.div_eq_of_lt h, limbs_zero]
set_option maxRecDepth 100000 in
set_option maxHeartbeats 2000000 in
theorem setBigWithPow (Z oz : Nat) (cs : Array Value) (t : TypeId) (n0 m0 : Bool) (k : Nat) (w : World) (hZ : BlkAt w Z cs t) (h0 : cs[oz]? = some (.bool n0)) (h1 : cs[oz + 1]? = some (.slice none 0 0)) (h2 : cs[oz + 2]? = some (.bool m0)) (hT : Thr w) (hk : 1 ≤ k) (hk' : k ≤ 100) (hZ19 : 19 ≤ Z) :
 Calls Tryz.prog 148 #[.pointer (some ⟨Z, oz, none⟩), .int .i64 (k : Int)] w fun e w' => e = .returned (.tuple #[]) ∧ IntRes w Z oz (cs.setIfInBounds (oz + 2) (.bool false)) t (10 ^ k) w' := by
 have hb := blk_new w (.cells #[.bool false, .slice none 0 0, .bool false] 70 (0, 0));have hFa : Fr NoB w (w.alloc (.cells #[.bool false, .slice none 0 0, .bool false] 70)) := (Fr.refl _ _).alloc _;have HI := hid (bigSetInt64 w.heap.size 0 #[.bool false, .slice none 0 0, .bool false] 70 false false k (w.alloc (.cells #[.bool false, .slice none 0 0, .bool false] 70)) hb rfl rfl rfl (by omega));have hsz : (w.alloc (.cells #[.bool false, .slice none 0 0, .bool false] 70)).heap.size = w.heap.size + 1 := by simp
 have HZ := hid hZ; have H0 := hid h0; have H1 := hid h1; have H2 := hid h2; have HT := hid hT; have HFA := hid hFa; have HSZ := hid hsz;have hZl := blk_lt hZ;clear hb hFa hsz hZ h0 h1 h2 hT;go_enter Tryz.func148, Tryz.ntmps148;go_wp2_with fail;refine HI.out.mono ?_;rintro e w1 ⟨rfl, vy, r1, r2, r3, r4⟩;have hF1 : Fr NoB w w1 := HFA.out.trans r4 (fun i hi h => by have h : i = w.heap.size := h; omega);have R1 := hid r1; have R2 := hid r2; have R3 := hid r3; have HF1 := hid hF1;clear r1 r2 r3 r4 hF1;go_wp2_with fail;refine (bigTen_any w1).mono ?_;rintro e w2 ⟨rfl, vx, q1, q2, q3, q4⟩;have hF2 : Fr NoB w w2 := HF1.out.trans q4 (fun _ _ h => h);have hzl : w.heap.size < w1.heap.size := blk_lt R1.out;have y0 : w2.cell? ⟨w.heap.size, 0, none⟩ = some (.bool false) := by rw [blk_cell (q4.blk R1.out (fun h => h))]; rfl
 have y1 : w2.cell? ⟨w.heap.size, 0 + 1, none⟩ = some vy := by rw [blk_cell (q4.blk R1.out (fun h => h))]; rfl
 have hvy : NatAt w1 vy [k] := by
  have h := R2.out;rw [limbs_small (k := k) (by omega) (by rw [WB_eq]; omega)] at h;exact h
 have HE := hid (bigExp Z oz w1.heap.size 0 w.heap.size 0 cs t n0 m0 vx vy false k w2 (hF2.blk HZ.out (fun h => h)) H0.out H1.out H2.out
  (by rw [blk_cell q1]; rfl) (by rw [blk_cell q1]; rfl) y0 y1 (by rw [limbs_small (by omega) (by rw [WB_eq]; omega)] at q2; exact q2) (hvy.fr q4 (fun _ _ h => h)) (HT.out.fr hF2 (fun _ _ h => h)) hk hk' (.inr (by omega)) (by omega) (fun g hg => by have := q3 g hg; omega) (fun g hg => by have := R3.out g hg; rw [HSZ.out] at this; omega) hZ19)
 have HF2 := hid hF2;clear hF2 q1 q2 q3 q4 y0 y1 hvy;go_wp2_with fail;refine HE.out.mono ?_;rintro e w3 ⟨rfl, v', s1, s2, s3, s4⟩;have N := hid (show IntRes w Z oz (cs.setIfInBounds (oz + 2) (.bool false)) t (10 ^ k) w3 from ⟨v', s1, s2, fun g hg => Nat.le_trans HF2.out.size (s3 g hg), Fr.trans (S := fun i => i = Z) (HF2.out.mono (fun _ _ h => h.elim)) s4 (fun _ _ h => h)⟩);clear s1 s2 s3 s4;go_wp2_with fail;go_end0;exact ⟨rfl, N.out⟩
theorem tableExp10 (Z oz : Nat) (cs : Array Value) (t : TypeId) (n0 m0 : Bool) (k : Nat) (w : World) (hZ : BlkAt w Z cs t) (h0 : cs[oz]? = some (.bool n0)) (h1 : cs[oz + 1]? = some (.slice none 0 0)) (h2 : cs[oz + 2]? = some (.bool m0)) (hT : Thr w) (hk : 1 ≤ k) (hk' : k ≤ 100) (hZ19 : 19 ≤ Z) :
 Calls Tryz.prog 101 #[.int .i64 (k : Int), .pointer (some ⟨Z, oz, none⟩)] w fun e w' => e = .returned (.pointer (some ⟨Z, oz, none⟩)) ∧ IntRes w Z oz (cs.setIfInBounds (oz + 2) (.bool false)) t (10 ^ k) w' := by
 have H := hid (setBigWithPow Z oz cs t n0 m0 k w hZ h0 h1 h2 hT hk hk' hZ19);clear hZ h0 h1 h2 hT;go_enter Tryz.func101, Tryz.ntmps101;go_wp2_with fail;refine H.out.mono ?_;rintro e w1 ⟨rfl, r⟩;have N := hid r;clear r;go_wp2_with fail;go_ret;exact ⟨rfl, N.out⟩
def LshRes (w : World) (C : Nat) (s : Nat) (w' : World) : Prop :=
 ∃ v', BlkAt w' C #[.bool false, v', .bool false] 70 ∧ NatAt w' v' (limbs (2 ^ s)) ∧ (∀ g, natBlk v' = some g → C < g) ∧ Fr (fun i => C ≤ i) w w'
set_option maxRecDepth 100000 in
set_option maxHeartbeats 2000000 in
theorem intLsh_one (C : Nat) (v : Value) (s : Nat) (w : World) (hC : BlkAt w C #[.bool false, v, .bool false] 70) (hv : NatAt w v [1]) (hg : ∀ g, natBlk v = some g → C < g) (hs : s ≤ 200) :
 Calls Tryz.prog 229 #[.pointer (some ⟨C, 0, none⟩), .pointer (some ⟨C, 0, none⟩), .int .u64 (s : Int)] w fun e w' => e = .returned (.pointer (some ⟨C, 0, none⟩)) ∧ LshRes w C s w' := by
 obtain ⟨g, cap, rfl, _, _, hgl, _, _⟩ := hv.cell (by simp);have hFd : Fr NoB w w.drew := (Fr.refl _ _).drew;have HL := hid (natLsh_one g cap s w.drew (hv.fr hFd (fun _ _ h => h)) hs);rw [show ([1] : List Nat).length = 1 from rfl] at *
 have hCg := hg g rfl;have hCd : BlkAt w.drew C #[.bool false, .slice (some ⟨g, 0, none⟩) 1 cap, .bool false] 70 := hC;have c1 : w.cell? ⟨C, 1, none⟩ = some (.slice (some ⟨g, 0, none⟩) 1 cap) := by rw [blk_cell hC]; rfl
 have HC := hid hCd;have fin : ∀ (w1 : World) (v' : Value), NatRes w.drew (.slice (some ⟨g, 0, none⟩) 1 cap) (2 ^ s) (.returned v') w1 → ∃ A n c, v' = .slice A n c ∧ BlkAt w1 C #[.bool false, .slice (some ⟨g, 0, none⟩) 1 cap, .bool false] 70 ∧
  LshRes w C s ((w1.setCell ⟨C, 1, none⟩ v').setCell ⟨C, 0, none⟩ (.bool false)) := by
  rintro w1 v' ⟨v, hv, r1, r2, r3⟩;cases hv;obtain ⟨A, c, hs⟩ := r1.shape;have hb1 : BlkAt w1 C #[.bool false, .slice (some ⟨g, 0, none⟩) 1 cap, .bool false] 70 := r2.blk HC.out (fun h => by
   have h : some g = some C := h;cases h; omega)
  have s1 := blk_set hb1 1 v';have s0 := blk_set s1 0 (.bool false);refine ⟨_, _, _, hs, hb1, v', s0, ?_, fun i hi => ?_, ?_⟩
  · have hF2 : Fr (fun i => i = C) w1 ((w1.setCell ⟨C, 1, none⟩ v').setCell ⟨C, 0, none⟩ (.bool false)) :=
     Fr.setCell (S := fun i => i = C) (p := ⟨C, 0, none⟩) (Fr.setCell (S := fun i => i = C) (p := ⟨C, 1, none⟩) (Fr.refl _ _) (fun _ => rfl) _) (fun _ => rfl) _
    refine r1.fr hF2 (fun i hi h => ?_);have h : i = C := h;rcases r3 i hi with h2 | h2;· have h2 : some g = some i := h2;cases h2; omega
    · have := blk_lt HC.out; omega
  · rcases r3 i hi with h2 | h2
    · have h2 : some g = some i := h2;cases h2; omega
    · have := blk_lt HC.out; omega
  · refine Fr.setCell (S := fun i => C ≤ i) (p := ⟨C, 0, none⟩) (Fr.setCell (S := fun i => C ≤ i) (p := ⟨C, 1, none⟩) (hFd.mono (fun _ _ h => h.elim) |>.trans r2 (fun i hi h => ?_)) (fun _ => Nat.le_refl _) _) (fun _ => Nat.le_refl _) _;have h : some g = some i := h;cases h; omega
 have FIN := hid fin;clear hC hCd hv hg fin hFd;go_enter Tryz.func229, Tryz.ntmps229;go_wp2_with fail;go_region_with (first | (go_at_call 262; refine HL.out.mono ?_; rintro e w1 ⟨v', rfl, r1, r2, r3⟩; obtain ⟨A, n, c, rfl, hb1, hfin⟩ := FIN.out w1 v' ⟨v', rfl, r1, r2, r3⟩; have k1 : w1.cell? ⟨C, 1, none⟩ = some (.slice (some ⟨g, 0, none⟩) 1 cap) := (by rw [blk_cell hb1]; rfl); have f1 : w1.frozen? ⟨C, 1, none⟩ = false := blk_frozen hb1 _; have HFI := hid hfin; have HB1 := hid hb1; clear hfin hb1 r1 r2 r3));all_goals
  have s1 := blk_set HB1.out 1 (.slice A n c);have k0 : (w1.setCell ⟨C, 1, none⟩ (.slice A n c)).cell? ⟨C, 0, none⟩ = some (.bool false) := by rw [blk_cell s1]; rfl
  have f0 : (w1.setCell ⟨C, 1, none⟩ (.slice A n c)).frozen? ⟨C, 0, none⟩ = false := blk_frozen s1 _;clear s1;go_wp2_with fail;go_ret;exact ⟨rfl, HFI.out⟩
set_option maxRecDepth 100000 in
set_option maxHeartbeats 2000000 in
theorem bigLsh_one (C : Nat) (v : Value) (m0 : Bool) (s : Nat) (w : World) (hC : BlkAt w C #[.bool false, v, .bool m0] 70) (hv : NatAt w v [1]) (hg : ∀ g, natBlk v = some g → C < g) (hs : s ≤ 200) :
 Calls Tryz.prog 195 #[.pointer (some ⟨C, 0, none⟩), .pointer (some ⟨C, 0, none⟩), .int .u64 (s : Int)] w fun e w' => e = .returned (.pointer (some ⟨C, 0, none⟩)) ∧ LshRes w C s w' := by
 have c2 : w.cell? ⟨C, 2, none⟩ = some (.bool m0) := by rw [blk_cell hC]; rfl
 have f2 : w.frozen? ⟨C, 2, none⟩ = false := blk_frozen hC _;have s2 := blk_set hC 2 (.bool false);have hF : Fr (fun i => i = C) w (w.setCell ⟨C, 2, none⟩ (.bool false)).drew := (Fr.setCell (S := fun i => i = C) (p := ⟨C, 2, none⟩) (Fr.refl _ _) (fun _ => rfl) _).drew;have HL := hid (intLsh_one C v s (w.setCell ⟨C, 2, none⟩ (.bool false)).drew s2 (hv.fr hF (fun g hg' h => by
  have h : g = C := h;have := hg g hg';omega)) hg hs)
 have HF := hid hF;clear hC hv hg s2 hF;go_enter Tryz.func195, Tryz.ntmps195;go_wp2_with fail;go_region_with (first | (go_at_call 229; refine HL.out.mono ?_; rintro e w1 ⟨rfl, r⟩; have R := hid r; clear r));obtain ⟨v', r1, r2, r3, r4⟩ := R.out;have N := hid (show LshRes w C s w1 from ⟨v', r1, r2, r3, Fr.trans (S := fun i => C ≤ i) (HF.out.mono (fun i hi h => by have h : i = C := h; omega)) r4 (fun _ _ h => h)⟩);clear r1 r2 r3 r4 R;go_wp2_with fail;go_ret;exact ⟨rfl, N.out⟩
def StrRes (w : World) (N : Nat) (e : Ending) (w' : World) : Prop := e = .returned (.string ⟨(Lib.decDigits N).toArray⟩) ∧ Fr NoB w w'
theorem BytesAt.str {w : World} {B : Nat} {v : Value} {l : List UInt8} (h : BytesAt w B v l) : (convert 100 9 v).run Tryz.prog w = .ok (.string ⟨l.toArray⟩) w := by
 obtain ⟨g, o, cap, cs, fr, rfl, h2, h3, h4, h5, h6, h7⟩ := h;refine run_convert_bytes_back w 100 9 5 ⟨g, o, none⟩ cap l Tryz.underlying100 Tryz.underlying5 Tryz.underlying9 (fun j hj => ?_);rw [add_plain];have := h7 j l[j] (List.getElem?_eq_getElem hj);simp only [World.cell?, h3];exact this
set_option maxRecDepth 100000 in
set_option maxHeartbeats 2000000 in
theorem intText (C o : Nat) (v : Value) (N : Nat) (w : World) (h0 : w.cell? ⟨C, o, none⟩ = some (.bool false)) (h1 : w.cell? ⟨C, o + 1, none⟩ = some v) (hv : NatAt w v (limbs N)) (hb : blen N < 300) (hT : Thr w) :
 Calls Tryz.prog 263 #[.pointer (some ⟨C, o, none⟩), .int .i64 10] w (StrRes w N) := by
 have hFd : Fr NoB w w.drew := (Fr.refl _ _).drew;have HI := hid (natItoa v N hb w.drew (hv.fr hFd (fun _ _ h => h)) (hT.fr hFd (fun _ _ h => h)).leaf);obtain ⟨A, c, rfl⟩ := hv.shape;have hFD := hid hFd;clear hv hT hFd;generalize (limbs N).length = n at *
 go_enter Tryz.func263, Tryz.ntmps263;go_wp2_with fail;go_region_with (first | (go_at_call 154; refine HI.out.mono ?_; rintro e w1 ⟨v', rfl, hby, hF⟩; have hcv := hby.str; have N1 := hid (show Fr NoB w w1 from hFD.out.trans hF (fun _ _ h => h)); obtain ⟨g, o', cap, cs, fr, rfl, hby⟩ := hby; clear hby hF));all_goals
  go_wp2_with fail;go_ret;exact ⟨rfl, N1.out⟩
theorem bigString (C o : Nat) (v : Value) (N : Nat) (w : World) (h0 : w.cell? ⟨C, o, none⟩ = some (.bool false)) (h1 : w.cell? ⟨C, o + 1, none⟩ = some v) (hv : NatAt w v (limbs N)) (hb : blen N < 300) (hT : Thr w) :
 Calls Tryz.prog 196 #[.pointer (some ⟨C, o, none⟩)] w (StrRes w N) := by
 have H := hid (intText C o v N w h0 h1 hv hb hT);clear h0 h1 hv hb hT;go_enter Tryz.func196, Tryz.ntmps196;go_wp2_with (first | (go_at_call 230; go_in));refine H.out.mono ?_;rintro e w1 ⟨rfl, r⟩;have N := hid r;clear r;go_wp2_with fail;go_ret;exact ⟨rfl, N.out⟩
end Go.Proofs.YteokhhepnoelhaaGreatDoor
