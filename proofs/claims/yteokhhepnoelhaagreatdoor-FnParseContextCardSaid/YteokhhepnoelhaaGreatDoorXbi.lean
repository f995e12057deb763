/-
  big.Int.Quo in place.
-/
import Derived.Test.YteokhhepnoelhaaGreatDoorXbf
import Derived.Deep.Cut
import Derived.Deep.DeepCutAuto
import Derived.Test.YteokhhepnoelhaaGreatDoorXbh
set_option linter.unusedVariables false
set_option linter.unusedSimpArgs false
namespace Go.Proofs.YteokhhepnoelhaaGreatDoor
open Go.RowKit
set_option maxRecDepth 100000 in
set_option maxHeartbeats 4000000 in
theorem intQuo (Z oz Yb oy A y : Nat) (cs : Array Value) (t : TypeId) (vz vy : Value) (w : World) (hZY : Yb ≠ Z) (hZ : BlkAt w Z cs t) (z0 : cs[oz]? = some (.bool false)) (z1 : cs[oz + 1]? = some vz)
 (y0 : w.cell? ⟨Yb, oy, none⟩ = some (.bool false)) (y1 : w.cell? ⟨Yb, oy + 1, none⟩ = some vy)
 (hvz : NatAt w vz (limbs A)) (hvy : NatAt w vy (limbs y)) (hzb : ∀ g, natBlk vz = some g → g ≠ Z ∧ g ≠ Yb) (hy2 : 2 ≤ y) (hyw : y < WB) (hyA : y ≤ A) (hl : (limbs A).length ≤ 900) :
 Calls Tryz.prog 168 #[.pointer (some ⟨Z, oz, none⟩), .pointer (some ⟨Z, oz, none⟩), .pointer (some ⟨Yb, oy, none⟩)] w
  fun e w' => e = .returned (.pointer (some ⟨Z, oz, none⟩)) ∧ QuoRes w Z oz cs t vz (A / y) w' := by
 have c1 : w.cell? ⟨Z, oz + 1, none⟩ = some vz := by rw [blk_cell hZ]; exact z1
 have hFd : Fr NoB w w.drew := (Fr.refl _ _).drew;have HD := hid (natDivOne vz (.slice none 0 0) vz vy (limbs A) [] A y w.drew (hvz.fr hFd (fun _ _ h => h)) (NatAt.nil _) (fun g h h2 => by cases h2) (hvz.fr hFd (fun _ _ h => h)) (hvy.fr hFd (fun _ _ h => h)) hy2 hyw hl);obtain ⟨Az, cz, hz⟩ := hvz.shape;obtain ⟨Ay, cy, hyy⟩ := hvy.shape;have fin : ∀ (w1 : World) (vq vr : Value), DivBoth w.drew vz (.slice none 0 0) A y (.returned (.tuple #[vq, vr])) w1 → ∃ Aq nq cq Ar nr cr, vq = .slice Aq nq cq ∧ vr = .slice Ar nr cr ∧ 0 < nq ∧ BlkAt w1 Z cs t ∧
  (w1.setCell ⟨Z, oz + 1, none⟩ vq).cell? ⟨Z, oz, none⟩ = some (.bool false) ∧ (w1.setCell ⟨Z, oz + 1, none⟩ vq).frozen? ⟨Z, oz, none⟩ = false ∧ (w1.setCell ⟨Z, oz + 1, none⟩ vq).cell? ⟨Z, oz + 1, none⟩ = some vq ∧
  (w1.setCell ⟨Z, oz + 1, none⟩ vq).cell? ⟨Yb, oy, none⟩ = some (.bool false) ∧ QuoRes w Z oz cs t vz (A / y) (((w1.setCell ⟨Z, oz + 1, none⟩ vq).drew).setCell ⟨Z, oz, none⟩ (.bool false)) := by
  rintro w1 vq vr ⟨v, v2, hv, a1, a2, a3, a4, a5, a6⟩;cases hv;obtain ⟨Aq, cq, hs⟩ := a1.shape;obtain ⟨Ar, cr, hs2⟩ := a2.shape;have a3 : Fr (fun i => natBlk vz = some i) w w1 := (hFd.mono (fun _ _ h => h.elim)).trans (a3.mono (fun i _ h => h.resolve_right (by intro h; cases h))) (fun _ _ h => h);obtain ⟨f1, f2, f3, f4, f5, f6, _⟩ := quo_fin Z oz cs t vz vq (A / y) w w1 hZ z0 z1 (fun g h => (hzb g h).1) a1 a3 a4;have hy1 : w1.cell? ⟨Yb, oy, none⟩ = some (.bool false) := a3.cell' y0 (fun h => (hzb Yb h).2 rfl);exact ⟨_, _, _, _, _, _, hs, hs2, limbs_len_pos (by have := Nat.div_pos hyA (show 0 < y by omega); omega), f1, f2, f3, f4, f5.cell' hy1 hZY, f6⟩
 have FIN := hid fin;have Z1 := hid z1;clear hvz hvy hzb hFd fin z0 z1 hZ;subst hz; subst hyy;generalize (limbs y).length = n1 at *
 generalize (limbs A).length = n2 at *
 go_enter Tryz.func168, Tryz.ntmps168;go_upto_region 1 with fail;go_cut [7] from 8 to 26 (fun t wx => ∃ (w1 : World) (Aq : Option Addr) (nq cq : Nat) (Ar : Option Addr) (nr cr : Nat), t = .tuple #[.slice Aq nq cq, .slice Ar nr cr] ∧ wx = w1.setCell ⟨Z, oz + 1, none⟩ (.slice Aq nq cq) ∧ Hid (DivBoth w.drew (.slice Az n2 cz) (.slice none 0 0) A y (.returned (.tuple #[.slice Aq nq cq, .slice Ar nr cr])) w1));case first =>
  go_region_with (first | (go_at_call 179; refine HD.out.mono ?_; rintro e w1 ⟨vq, vr, rfl, hr⟩; obtain ⟨Aq, nq, cq, Ar, nr, cr, rfl, rfl, _, hb1, _⟩ := FIN.out w1 vq vr ⟨vq, vr, rfl, hr⟩; have k1 : w1.cell? ⟨Z, oz + 1, none⟩ = some (.slice Az n2 cz) := (by rw [blk_cell hb1]; exact Z1.out); have f1 : w1.frozen? ⟨Z, oz + 1, none⟩ = false := blk_frozen hb1 _; have HDV := hid (show DivBoth w.drew (.slice Az n2 cz) (.slice none 0 0) A y (.returned (.tuple #[.slice Aq nq cq, .slice Ar nr cr])) w1 from ⟨_, _, rfl, hr⟩); clear hb1 hr));all_goals
   go_wp2_with fail;go_meet;exact ⟨w1, Aq, nq, cq, Ar, nr, cr, rfl, rfl, HDV⟩
 case rest =>
  obtain ⟨w1, Aq, nq, cq, Ar, nr, cr, rfl, rfl, HDV⟩ := hcut;obtain ⟨Aq', nq', cq', Ar', nr', cr', e1, e2, hr, hb1, q0, g0, q1, qx, hfin⟩ := FIN.out w1 _ _ HDV.out;cases e1; cases e2;have N := hid hfin;clear hb1 hfin HDV FIN HD c1;generalize (w1.setCell ⟨Z, oz + 1, none⟩ (.slice Aq nq cq)) = W at *
  have hd : decide (0 < nq) = true := decide_eq_true hr;go_wp2_with fail;have hsc := still_cell W;go_still_tail 20, (by kernel_rfl)
  clear hsc;go_wp2_with fail;go_ret;exact ⟨rfl, N.out⟩
theorem QuoRes.minus {w wx : World} {Z oz : Nat} {cs : Array Value} {t : TypeId} {vz : Value} {n : Nat} {w1 : World} (h : QuoRes wx Z oz cs t vz n w1) (hF : Fr (fun i => i = Z) w wx) (hs : wx.heap.size = w.heap.size) : QuoRes w Z oz cs t vz n w1 := by
 obtain ⟨v', a1, a2, a3, a4⟩ := h;exact ⟨v', a1, a2, fun g hg => by rw [← hs]; exact a3 g hg, (hF.mono (fun i _ h => .inl h)).trans a4 (fun _ _ h => h)⟩
set_option maxRecDepth 100000 in
set_option maxHeartbeats 2000000 in
theorem bigRem (Z oz X ox Yb oy A y : Nat) (cs : Array Value) (t : TypeId) (vz vx vy : Value) (zs : List Nat) (m0 : Bool) (w : World) (hZX : X ≠ Z) (hZY : Yb ≠ Z) (hZ : BlkAt w Z cs t) (z0 : cs[oz]? = some (.bool false)) (z1 : cs[oz + 1]? = some vz) (z2 : cs[oz + 2]? = some (.bool m0))
 (x0 : w.cell? ⟨X, ox, none⟩ = some (.bool false)) (x1 : w.cell? ⟨X, ox + 1, none⟩ = some vx) (y1 : w.cell? ⟨Yb, oy + 1, none⟩ = some vy)
 (hvz : NatAt w vz zs) (hvx : NatAt w vx (limbs A)) (hvy : NatAt w vy (limbs y)) (hzb : ∀ g, natBlk vz = some g → g ≠ Z ∧ g ≠ X) (hxZ : ∀ g, natBlk vx = some g → g ≠ Z) (hyZ : ∀ g, natBlk vy = some g → g ≠ Z) (hy2 : 2 ≤ y) (hyw : y < WB) (hl : (limbs A).length ≤ 900) :
 Calls Tryz.prog 170 #[.pointer (some ⟨Z, oz, none⟩), .pointer (some ⟨X, ox, none⟩), .pointer (some ⟨Yb, oy, none⟩)] w
  fun e w' => e = .returned (.pointer (some ⟨Z, oz, none⟩)) ∧ QuoRes w Z oz (cs.setIfInBounds (oz + 2) (.bool false)) t vz (A % y) w' := by
 have k2 : w.cell? ⟨Z, oz + 2, none⟩ = some (.bool m0) := by rw [blk_cell hZ]; exact z2
 have f2 : w.frozen? ⟨Z, oz + 2, none⟩ = false := blk_frozen hZ _;have s2 := blk_set hZ (oz + 2) (.bool false);have hF : Fr (fun i => i = Z) w (w.setCell ⟨Z, oz + 2, none⟩ (.bool false)).drew := (Fr.setCell (S := fun i => i = Z) (p := ⟨Z, oz + 2, none⟩) (Fr.refl _ _) (fun _ => rfl) _).drew;have HI := hid (intRem Z oz X ox Yb oy A y (cs.setIfInBounds (oz + 2) (.bool false)) t vz vx vy zs (w.setCell ⟨Z, oz + 2, none⟩ (.bool false)).drew hZX s2
  (by rw [Array.getElem?_setIfInBounds, if_neg (by omega)]; exact z0) (by rw [Array.getElem?_setIfInBounds, if_neg (by omega)]; exact z1) (hF.cell' x0 hZX) (hF.cell' x1 hZX) (hF.cell' y1 hZY)
  (hvz.fr hF (fun g h h2 => (hzb g h).1 h2)) (hvx.fr hF (fun g h h2 => hxZ g h h2)) (hvy.fr hF (fun g h h2 => hyZ g h h2)) hzb hy2 hyw hl)
 have HF := hid hF;have HSZ : Hid ((w.setCell ⟨Z, oz + 2, none⟩ (.bool false)).drew.heap.size = w.heap.size) := hid (by simp [World.drew]);clear hF s2 hvz hvx hvy hzb hxZ hyZ hZ z0 z1 z2 x0 x1 y1;go_enter Tryz.func170, Tryz.ntmps170;go_wp2_with fail;go_still_tail 9, (by kernel_rfl)
 go_wp2_with (first | (go_at_call 200; refine HI.out.mono ?_; rintro e w1 ⟨rfl, r⟩; have N := hid (r.minus HF.out HSZ.out); clear r));go_ret;exact ⟨rfl, N.out⟩
set_option maxRecDepth 100000 in
set_option maxHeartbeats 2000000 in
theorem bigQuo (Z oz Yb oy A y : Nat) (cs : Array Value) (t : TypeId) (vz vy : Value) (m0 : Bool) (w : World) (hZY : Yb ≠ Z) (hZ : BlkAt w Z cs t) (z0 : cs[oz]? = some (.bool false)) (z1 : cs[oz + 1]? = some vz) (z2 : cs[oz + 2]? = some (.bool m0))
 (y0 : w.cell? ⟨Yb, oy, none⟩ = some (.bool false)) (y1 : w.cell? ⟨Yb, oy + 1, none⟩ = some vy)
 (hvz : NatAt w vz (limbs A)) (hvy : NatAt w vy (limbs y)) (hzb : ∀ g, natBlk vz = some g → g ≠ Z ∧ g ≠ Yb) (hyZ : ∀ g, natBlk vy = some g → g ≠ Z) (hy2 : 2 ≤ y) (hyw : y < WB) (hyA : y ≤ A) (hl : (limbs A).length ≤ 900) :
 Calls Tryz.prog 133 #[.pointer (some ⟨Z, oz, none⟩), .pointer (some ⟨Z, oz, none⟩), .pointer (some ⟨Yb, oy, none⟩)] w
  fun e w' => e = .returned (.pointer (some ⟨Z, oz, none⟩)) ∧ QuoRes w Z oz (cs.setIfInBounds (oz + 2) (.bool false)) t vz (A / y) w' := by
 have k2 : w.cell? ⟨Z, oz + 2, none⟩ = some (.bool m0) := by rw [blk_cell hZ]; exact z2
 have f2 : w.frozen? ⟨Z, oz + 2, none⟩ = false := blk_frozen hZ _;have s2 := blk_set hZ (oz + 2) (.bool false);have hF : Fr (fun i => i = Z) w (w.setCell ⟨Z, oz + 2, none⟩ (.bool false)).drew := (Fr.setCell (S := fun i => i = Z) (p := ⟨Z, oz + 2, none⟩) (Fr.refl _ _) (fun _ => rfl) _).drew;have HI := hid (intQuo Z oz Yb oy A y (cs.setIfInBounds (oz + 2) (.bool false)) t vz vy (w.setCell ⟨Z, oz + 2, none⟩ (.bool false)).drew hZY s2
  (by rw [Array.getElem?_setIfInBounds, if_neg (by omega)]; exact z0) (by rw [Array.getElem?_setIfInBounds, if_neg (by omega)]; exact z1) (hF.cell' y0 hZY) (hF.cell' y1 hZY)
  (hvz.fr hF (fun g h h2 => (hzb g h).1 h2)) (hvy.fr hF (fun g h h2 => hyZ g h h2)) hzb hy2 hyw hyA hl)
 have HF := hid hF;have HSZ : Hid ((w.setCell ⟨Z, oz + 2, none⟩ (.bool false)).drew.heap.size = w.heap.size) := hid (by simp [World.drew]);clear hF s2 hvz hvy hzb hyZ hZ z0 z1 z2 y0 y1;go_enter Tryz.func133, Tryz.ntmps133;go_wp2_with fail;go_still_tail 9, (by kernel_rfl)
 go_wp2_with (first | (go_at_call 168; refine HI.out.mono ?_; rintro e w1 ⟨rfl, r⟩; have N := hid (r.minus HF.out HSZ.out); clear r));go_ret;exact ⟨rfl, N.out⟩
set_option maxRecDepth 100000 in
set_option maxHeartbeats 2000000 in
theorem bigAdd (Z oz Yb oy A y : Nat) (cs : Array Value) (t : TypeId) (vz vy : Value) (m0 : Bool) (w : World) (hZY : Yb ≠ Z) (hZ : BlkAt w Z cs t) (z0 : cs[oz]? = some (.bool false)) (z1 : cs[oz + 1]? = some vz) (z2 : cs[oz + 2]? = some (.bool m0))
 (y0 : w.cell? ⟨Yb, oy, none⟩ = some (.bool false)) (y1 : w.cell? ⟨Yb, oy + 1, none⟩ = some vy)
 (hvz : NatAt w vz (limbs A)) (hvy : NatAt w vy [y]) (hzb : ∀ g, natBlk vz = some g → g ≠ Z ∧ g ≠ Yb) (hyZ : ∀ g, natBlk vy = some g → g ≠ Z) (hyb : ∀ g, natBlk vy = some g → natBlk vz ≠ some g) (hA : A ≠ 0) (hyw : y < WB) (hl : (limbs A).length ≤ 90) :
 Calls Tryz.prog 95 #[.pointer (some ⟨Z, oz, none⟩), .pointer (some ⟨Z, oz, none⟩), .pointer (some ⟨Yb, oy, none⟩)] w
  fun e w' => e = .returned (.pointer (some ⟨Z, oz, none⟩)) ∧ QuoRes w Z oz (cs.setIfInBounds (oz + 2) (.bool false)) t vz (A + y) w' := by
 have k2 : w.cell? ⟨Z, oz + 2, none⟩ = some (.bool m0) := by rw [blk_cell hZ]; exact z2
 have f2 : w.frozen? ⟨Z, oz + 2, none⟩ = false := blk_frozen hZ _;have s2 := blk_set hZ (oz + 2) (.bool false);have hF : Fr (fun i => i = Z) w (w.setCell ⟨Z, oz + 2, none⟩ (.bool false)).drew := (Fr.setCell (S := fun i => i = Z) (p := ⟨Z, oz + 2, none⟩) (Fr.refl _ _) (fun _ => rfl) _).drew;have HI := hid (intAdd Z oz Yb oy A y (cs.setIfInBounds (oz + 2) (.bool false)) t vz vy (w.setCell ⟨Z, oz + 2, none⟩ (.bool false)).drew hZY s2
  (by rw [Array.getElem?_setIfInBounds, if_neg (by omega)]; exact z0) (by rw [Array.getElem?_setIfInBounds, if_neg (by omega)]; exact z1) (hF.cell' y0 hZY) (hF.cell' y1 hZY)
  (hvz.fr hF (fun g h h2 => (hzb g h).1 h2)) (hvy.fr hF (fun g h h2 => hyZ g h h2)) hzb hyb hA hyw hl)
 have HF := hid hF;have HSZ : Hid ((w.setCell ⟨Z, oz + 2, none⟩ (.bool false)).drew.heap.size = w.heap.size) := hid (by simp [World.drew]);clear hF s2 hvz hvy hzb hyZ hyb hZ z0 z1 z2 y0 y1;go_enter Tryz.func95, Tryz.ntmps95;go_wp2_with fail;go_still_tail 9, (by kernel_rfl)
 go_wp2_with (first | (go_at_call 145; refine HI.out.mono ?_; rintro e w1 ⟨rfl, r⟩; have N := hid (r.minus HF.out HSZ.out); clear r));go_ret;exact ⟨rfl, N.out⟩
theorem bigFive_any (w : World) : Calls Tryz.prog 171 #[] w (NewBig w 5) := by
 have H := hid (newBigInt 5 (by omega) w);go_enter Tryz.func171, Tryz.ntmps171;go_wp2_with fail;refine H.out.mono ?_;rintro e w1 ⟨rfl, r⟩;have N := hid (show NewBig w 5 _ w1 from ⟨rfl, r⟩);clear r;go_wp2_with fail;go_ret;exact N.out
theorem bigOne_any (w : World) : Calls Tryz.prog 96 #[] w (NewBig w 1) := by
 have H := hid (newBigInt 1 (by omega) w);go_enter Tryz.func96, Tryz.ntmps96;go_wp2_with fail;refine H.out.mono ?_;rintro e w1 ⟨rfl, r⟩;have N := hid (show NewBig w 1 _ w1 from ⟨rfl, r⟩);clear r;go_wp2_with fail;go_ret;exact N.out
end Go.Proofs.YteokhhepnoelhaaGreatDoor
