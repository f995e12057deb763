/-
  BigInt.QuoRem where the quotient goes into the divisor.
-/
import Derived.Test.YteokhhepnoelhaaGreatDoorXbm
import Derived.StillTailTactics
import Derived.Test.YteokhhepnoelhaaGreatDoorXbj
import Derived.Test.YteokhhepnoelhaaGreatDoorXbl
import Derived.Test.YteokhhepnoelhaaGreatDoorXao
import Derived.Deep.RegionHeld3
set_option linter.unusedVariables false
set_option linter.unusedSimpArgs false
namespace Go.Proofs.YteokhhepnoelhaaGreatDoor
open Go.RowKit
set_option maxRecDepth 100000 in
set_option maxHeartbeats 4000000 in
theorem bigQuoRem (Z oz X ox R o A Y : Nat) (csz csx csr : Array Value) (tz tx tr : TypeId) (vz vx : Value) (m1 m2 m3 : Bool) (w : World) (hZX : Z ≠ X) (hZR : Z ≠ R) (hRX : R ≠ X) (hZ : BlkAt w Z csz tz) (z0 : csz[oz]? = some (.bool false)) (z1 : csz[oz + 1]? = some vz) (z2 : csz[oz + 2]? = some (.bool m1))
 (hX : BlkAt w X csx tx) (x0 : csx[ox]? = some (.bool false)) (x1 : csx[ox + 1]? = some vx) (hR : BlkAt w R csr tr) (r0 : csr[o]? = some (.bool false)) (r1 : csr[o + 1]? = some (.slice none 0 0)) (r2 : csr[o + 2]? = some (.bool m2))
 (hvz : NatAt w vz (limbs Y)) (hvx : NatAt w vx (limbs A)) (hzb : ∀ g, natBlk vz = some g → g ≠ Z ∧ g ≠ R ∧ g ≠ X)
 (hY0 : 0 < Y) (hYA : Y ≤ A) (hD : ∀ wx, Fr (fun i => i = Z ∨ i = R) w wx → Calls Tryz.prog 179 #[vz, .pointer none, .slice none 0 0, vx, vz] wx (DivBoth wx vz (.slice none 0 0) A Y)) (hvxb : ∀ g, natBlk vx = some g → g ≠ Z ∧ g ≠ R) :
 Calls Tryz.prog 102 #[.pointer (some ⟨Z, oz, none⟩), .pointer (some ⟨X, ox, none⟩), .pointer (some ⟨Z, oz, none⟩), .pointer (some ⟨R, o, none⟩)] w
  fun e w' => e = .returned (.tuple #[.pointer (some ⟨Z, oz, none⟩), .pointer (some ⟨R, o, none⟩)]) ∧ QRRes w Z oz R o (csz.setIfInBounds (oz + 2) (.bool false)) (csr.setIfInBounds (o + 2) (.bool false)) tz tr vz A Y w' := by
 have k2 : w.cell? ⟨Z, oz + 2, none⟩ = some (.bool m1) := by rw [blk_cell hZ]; exact z2
 have f2 : w.frozen? ⟨Z, oz + 2, none⟩ = false := blk_frozen hZ _;have s1 := blk_set hZ (oz + 2) (.bool false);have s1r := blk_far hR (p := ⟨Z, oz + 2, none⟩) (Ne.symm hZR) (.bool false);have k3 : (w.setCell ⟨Z, oz + 2, none⟩ (.bool false)).cell? ⟨R, o + 2, none⟩ = some (.bool m2) := by rw [blk_cell s1r]; exact r2
 have f3 : (w.setCell ⟨Z, oz + 2, none⟩ (.bool false)).frozen? ⟨R, o + 2, none⟩ = false := blk_frozen s1r _;have s2 := blk_far s1 (p := ⟨R, o + 2, none⟩) hZR (.bool false);have s2r := blk_set s1r (o + 2) (.bool false);have sx := blk_far (blk_far hX (p := ⟨Z, oz + 2, none⟩) (Ne.symm hZX) (.bool false)) (p := ⟨R, o + 2, none⟩) (Ne.symm hRX) (.bool false);have hF : Fr (fun i => i = Z ∨ i = R) w ((w.setCell ⟨Z, oz + 2, none⟩ (.bool false)).setCell ⟨R, o + 2, none⟩ (.bool false)).drew :=
  (Fr.setCell (S := fun i => i = Z ∨ i = R) (p := ⟨R, o + 2, none⟩) (Fr.setCell (S := fun i => i = Z ∨ i = R) (p := ⟨Z, oz + 2, none⟩) (Fr.refl _ _) (fun _ => .inl rfl) _) (fun _ => .inr rfl) _).drew
 have HI := hid (intQuoRem Z oz X ox R o A Y (csz.setIfInBounds (oz + 2) (.bool false)) csx (csr.setIfInBounds (o + 2) (.bool false)) tz tx tr vz vx ((w.setCell ⟨Z, oz + 2, none⟩ (.bool false)).setCell ⟨R, o + 2, none⟩ (.bool false)).drew hZX hZR hRX s2
  (by rw [Array.getElem?_setIfInBounds, if_neg (by omega)]; exact z0) (by rw [Array.getElem?_setIfInBounds, if_neg (by omega)]; exact z1) sx x0 x1 s2r (by rw [Array.getElem?_setIfInBounds, if_neg (by omega)]; exact r0) (by rw [Array.getElem?_setIfInBounds, if_neg (by omega)]; exact r1)
  (hvz.fr hF (fun g hg h => by have := hzb g hg; omega)) (hvx.fr hF (fun g hg h => by have := hvxb g hg; omega)) hzb hY0 hYA (fun wx hx => hD wx (hF.trans hx (fun _ _ h => h.elim))))
 have HF := hid hF;have HSZ : Hid (((w.setCell ⟨Z, oz + 2, none⟩ (.bool false)).setCell ⟨R, o + 2, none⟩ (.bool false)).drew.heap.size = w.heap.size) := hid (by simp [World.drew]);clear hF s1 s1r s2 s2r sx hD hvz hvx hX hR hZ z0 z1 z2 x0 x1 r0 r1 r2 hzb hvxb;go_enter Tryz.func102, Tryz.ntmps102;go_wp2_with fail;go_still_tail 12, (by kernel_rfl)
 go_wp2_with (first | (go_at_call 149; refine HI.out.mono ?_; rintro e w1 ⟨rfl, vq, vr, a1, a2, a3, a4, a5, a6, a7, a8⟩));have N := hid (show QRRes w Z oz R o (csz.setIfInBounds (oz + 2) (.bool false)) (csr.setIfInBounds (o + 2) (.bool false)) tz tr vz A Y w1 from
  ⟨vq, vr, a1, a2, a3, a4, (HF.out.mono (fun i _ h => by rcases h with h | h; exact .inl h; exact .inr (.inl h))).trans a5 (fun _ _ h => h), fun g hg => by have := a6 g hg; rw [HSZ.out] at this; exact this, fun g hg => by have := a7 g hg; rw [HSZ.out] at this; exact this, a8⟩)
 clear a1 a2 a3 a4 a5 a6 a7 a8;go_wp2_with fail;go_ret2;exact ⟨rfl, N.out⟩
def RndRes (w : World) (D : Nat) (neg : Bool) (v : Value) (V : Nat) (e0 : Int) (fl : Int) (V' : Nat) (e1 : Int) (e : Ending) (w' : World) : Prop :=
 e = .returned (.int .u32 fl) ∧ ∃ v', DecAt w' D 0 neg e1 false v' false ∧ NatAt w' v' (limbs V') ∧ (∀ g, natBlk v' = some g → natBlk v = some g ∨ w.heap.size ≤ g) ∧ Fr (fun i => i = D ∨ natBlk v = some i) w w'
theorem keepAlloc {W : World} {p q : Addr} {u v : Value} (o : Obj) (h : W.cell? p = some u ∧ W.cell? q = some v) : (W.alloc o).cell? p = some u ∧ (W.alloc o).cell? q = some v :=
 ⟨Fr.cell' (((Fr.refl NoB W).alloc o)) h.1 (fun h => h), Fr.cell' (((Fr.refl NoB W).alloc o)) h.2 (fun h => h)⟩
theorem decSign_V (D : Nat) (neg : Bool) (e0 : Int) (v : Value) (V : Nat) (w : World) (hD : DecAt w D 0 neg e0 false v false) (hv : NatAt w v (limbs V)) :
 Calls Tryz.prog 100 #[.pointer (some ⟨D, 0, none⟩)] w fun e w' => e = .returned (.int .i64 (if V = 0 then 0 else if neg then -1 else 1)) ∧ w = w' := by
 obtain ⟨A, c, hs⟩ := hv.shape;refine (decSign_any D 0 neg e0 false A (limbs V).length c false w (by rw [← hs]; exact hD)).mono ?_;rintro e w' ⟨rfl, rfl⟩;refine ⟨?_, rfl⟩;by_cases h : V = 0;· subst h;rw [if_pos rfl];simp [decSign, bigSign, limbs]
 · have := limbs_len_pos h;rw [if_neg h];simp [decSign, bigSign, show ¬ (limbs V).length = 0 by omega]
theorem div_any (vz vx : Value) (A Y : Nat) (w : World) (hz : NatAt w vz (limbs Y)) (hx : NatAt w vx (limbs A)) (hY2 : 2 ≤ Y) (hYA : Y ≤ A) (hlY : (limbs Y).length ≤ 4) (hlA : (limbs A).length ≤ 90) (hT : Thr w) :
 Calls Tryz.prog 179 #[vz, .pointer none, .slice none 0 0, vx, vz] w (DivBoth w vz (.slice none 0 0) A Y) := by
 by_cases h : Y < WB;· exact natDivOne vz (.slice none 0 0) vx vz (limbs Y) [] A Y w hz (NatAt.nil _) (fun g h h2 => by cases h2) hx hz hY2 h (by omega)
 · exact natDivMany vz vx vz (limbs Y) A Y w hz hx hz (by omega) hlY hYA hlA hT
set_option maxRecDepth 100000 in
set_option maxHeartbeats 4000000 in
theorem round_few (D cb mode : Nat) (neg : Bool) (e0 : Int) (v : Value) (V p : Nat) (traps : Int) (w : World) (hD : DecAt w D 0 neg e0 false v false) (hv : NatAt w v (limbs V)) (hvD : ∀ g, natBlk v = some g → g ≠ D)
 (hC : CtxAt w cb (p : Int) 100000 (-100000) traps (modeStr mode)) (helo : -90000 ≤ e0) (hehi : e0 ≤ 90000) (hp : 1 ≤ p) (hp' : p ≤ 60) (hb : blen V ≤ 200) (hT : Thr w) (hnd : Lib.nDigits V ≤ p) :
 Calls Tryz.prog 61 #[.string (modeStr mode), .pointer (some ⟨cb, 0, none⟩), .pointer (some ⟨D, 0, none⟩), .pointer (some ⟨D, 0, none⟩), .bool true] w (RndRes w D neg v V e0 0 V e0) := by
 have hn1 := Lib.nDigits_pos V;have HN := hid (digOk_all V (by omega) D 0 neg e0 v w hD hv hT);have HSG := hid (fun (wx : World) (h : Fr NoB w wx) => decSign_V D neg e0 v V wx (h.blk hD (fun h => h)) (hv.fr h (fun _ _ h => h)));have HD := hid hD; have HV := hid hv; have HC := hid hC; have HVD := hid hvD;have hdlt := blk_lt hD;have hq := fun w => eql51_same ⟨D, 0, none⟩ w
 have e2 : ((p : Int) == 0) = false := beq_eq_false_iff_ne.2 (by omega);clear hD hv hC hvD hb hT;generalize Lib.nDigits V = nd at *
 have hsg : (if V = 0 then (0 : Int) else if neg then -1 else 1) = 0 ∨ (if V = 0 then (0 : Int) else if neg then -1 else 1) = -1 ∨ (if V = 0 then (0 : Int) else if neg then -1 else 1) = 1 := by
  by_cases h : V = 0;· rw [if_pos h]; exact .inl rfl
  · rw [if_neg h]; cases neg
    · exact .inr (.inr rfl)
    · exact .inr (.inl rfl)
 generalize (if V = 0 then (0 : Int) else if neg then -1 else 1) = sg at *
 have t1 : decide (0 < (nd : Int) - (p : Int)) = false := decide_eq_false (by omega);have t2 : (0 < (nd : Int) - (p : Int)) = False := eq_false (by omega);have hadj : decide (e0 + (nd : Int) - 1 < -100000) = false := decide_eq_false (by omega);have hadj2 : (e0 + (nd : Int) - 1 < -100000) = False := eq_false (by omega);rcases hsg with rfl | rfl | rfl;all_goals
  go_enter Tryz.func61, Tryz.ntmps61;go_wp2_with (first | (go_at_call 99; go_in));refine HN.out.mono ?_;rintro e w1 ⟨rfl, hF⟩;have HF := hid hF;obtain ⟨c0, c1, c2, c3, c4⟩ := HC.out.fr hF (fun h => h);obtain ⟨⟨h0, h1, h2, h3, h4, h5⟩, f0, f1, f2, f3, f4, f5⟩ := (HD.out.fr hF (fun h => h)).cells;clear hF h0 h1 h3 h4 h5 f0 f1 f3 f4 f5;go_wp2_with fail;refine (HSG.out w1 HF.out).mono ?_;rintro e w2 ⟨rfl, rfl⟩;go_wp2_with fail;have hFa : Fr NoB w1 (w1.alloc (.cells #[.int .i64 0] 2)) := (Fr.refl _ _).alloc _;have hE : BlkAt (w1.alloc (.cells #[.int .i64 0] 2)) w1.heap.size #[.int .i64 0] 2 := blk_new w1 _;have HFW := hid (HF.out.trans hFa (fun _ _ h => h));have d2 := hFa.cell' h2 (fun h => h);have k0 : (w1.alloc (.cells #[.int .i64 0] 2)).cell? ⟨w1.heap.size, 0, none⟩ = some (.int .i64 0) := by rw [blk_cell hE]; rfl
  have hs1 := HF.out.size;clear hFa hE c0 c1 c2 c3 c4 h2 f2;generalize hW : (w1.alloc (.cells #[.int .i64 0] 2)) = W at *
  clear hW;have hFX : Fr NoB W (W.drew.alloc (.cells #[.int .i64 e0, .int .i64 0] 2)) := (Fr.refl _ _).drew.alloc _;have hX : BlkAt (W.drew.alloc (.cells #[.int .i64 e0, .int .i64 0] 2)) W.heap.size #[.int .i64 e0, .int .i64 0] 2 := blk_new W.drew _;have HSE := hid (setExponent_two_given D cb 0 neg e0 false v false (nd : Int) 0 e0 0 W.heap.size 2 _ ((HD.out.fr HFW.out (fun h => h)).fr hFX (fun h => h)) (p : Int) traps (modeStr mode) ((HC.out.fr HFW.out (fun h => h)).fr hFX (fun h => h)) (by rw [blk_cell hX]; rfl) (by rw [blk_cell hX]; rfl) (by omega) (by omega) (by omega) (by omega) (by omega) (by omega) (by omega) (by omega) (by omega) (by omega) (.inl rfl));have N := hid (show ∀ w', w' = (W.drew.alloc (.cells #[.int .i64 e0, .int .i64 0] 2)).setCell ⟨D, 2, none⟩ (.int .i32 (e0 + 0)) → RndRes w D neg v V e0 0 V e0 (.returned (.int .u32 0)) w' from by
   rintro w' rfl;have hF2 : Fr (fun i => i = D) w ((W.drew.alloc (.cells #[.int .i64 e0, .int .i64 0] 2)).setCell ⟨D, 2, none⟩ (.int .i32 (e0 + 0))) := Fr.setCell (S := fun i => i = D) (p := ⟨D, 2, none⟩) ((HFW.out.trans hFX (fun _ _ h => h)).mono (fun _ _ h => h.elim)) (fun _ => rfl) _;refine ⟨rfl, v, ?_, HV.out.fr hF2 (fun g hg h => HVD.out g hg h), fun g hg => .inl hg, hF2.mono (fun i _ h => .inl h)⟩;have h := (((HD.out.fr HFW.out (fun h => h)).fr hFX (fun h => h)).set2 (e0 + 0))
   rw [Int.add_zero] at h ⊢;exact h)
  have i1 : IntKind.i64.wrap e0 = e0 := IntWalk.i64_in _ (by omega);clear hFX hX;go_region_held3 (fun w' => w'.cell? ⟨D, 2, none⟩ = some (.int .i32 e0) ∧ w'.cell? ⟨w1.heap.size, 0, none⟩ = some (.int .i64 0)) (first | (exact ⟨by assumption, by assumption⟩) | (exact keepAlloc _ (by assumption)) | trivial) (first | (go_at_call 60; refine HSE.out.mono ?_; rintro e w3 ⟨rfl, hw⟩; have M := hid (N.out w3 hw); have m1 : w3.cell? ⟨D, 2, none⟩ = some (.int .i32 e0) := (by obtain ⟨_, _, a1, _⟩ := M.out; exact (a1.cells).1.2.2.1); have m2 : w3.cell? ⟨w1.heap.size, 0, none⟩ = some (.int .i64 0) := (by rw [hw]; exact Fr.cell' (Fr.setCell (S := fun i => i = D) (p := ⟨D, 2, none⟩) (((Fr.refl NoB W).drew.alloc _).mono (fun _ _ h => False.elim h)) (fun _ => rfl) _) k0 (by show ¬ w1.heap.size = D; omega)); clear hw));go_wp2_with fail;go_ret;exact M.out
end Go.Proofs.YteokhhepnoelhaaGreatDoor
