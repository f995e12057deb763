/-
  big.Int.Add in place of one word.
-/
import Derived.Test.YteokhhepnoelhaaGreatDoorXbf
import Derived.Test.YteokhhepnoelhaaGreatDoorXbg
import Derived.Deep.QuietTactic
import Derived.BigQuiet
set_option linter.unusedVariables false
set_option linter.unusedSimpArgs false
namespace Go.Proofs.YteokhhepnoelhaaGreatDoor
open Go.RowKit
set_option maxRecDepth 100000 in
set_option maxHeartbeats 4000000 in
theorem intAdd (Z oz Yb oy A y : Nat) (cs : Array Value) (t : TypeId) (vz vy : Value) (w : World) (hZY : Yb ≠ Z) (hZ : BlkAt w Z cs t) (z0 : cs[oz]? = some (.bool false)) (z1 : cs[oz + 1]? = some vz)
 (y0 : w.cell? ⟨Yb, oy, none⟩ = some (.bool false)) (y1 : w.cell? ⟨Yb, oy + 1, none⟩ = some vy)
 (hvz : NatAt w vz (limbs A)) (hvy : NatAt w vy [y]) (hzb : ∀ g, natBlk vz = some g → g ≠ Z ∧ g ≠ Yb) (hyb : ∀ g, natBlk vy = some g → natBlk vz ≠ some g) (hA : A ≠ 0) (hyw : y < WB) (hl : (limbs A).length ≤ 90) :
 Calls Tryz.prog 145 #[.pointer (some ⟨Z, oz, none⟩), .pointer (some ⟨Z, oz, none⟩), .pointer (some ⟨Yb, oy, none⟩)] w
  fun e w' => e = .returned (.pointer (some ⟨Z, oz, none⟩)) ∧ QuoRes w Z oz cs t vz (A + y) w' := by
 have c0 : w.cell? ⟨Z, oz, none⟩ = some (.bool false) := by rw [blk_cell hZ]; exact z0
 have c1 : w.cell? ⟨Z, oz + 1, none⟩ = some vz := by rw [blk_cell hZ]; exact z1
 have HD := hid (fun (wx : World) (h : Fr NoB w wx) => natAddOne vz vz vy (limbs A) A y wx (hvz.fr h (fun _ _ h => h)) (hvz.fr h (fun _ _ h => h)) (hvy.fr h (fun _ _ h => h)) hA hyw hyb hl);obtain ⟨Az, cz, hz⟩ := hvz.shape;obtain ⟨Ay, cy, hyy⟩ := hvy.shape;have fin : ∀ (wx w1 : World) (v' : Value), Fr NoB w wx → NatRes wx vz (A + y) (.returned v') w1 → ∃ Aq nq cq, v' = .slice Aq nq cq ∧ 0 < nq ∧ BlkAt w1 Z cs t ∧
  (w1.setCell ⟨Z, oz + 1, none⟩ v').cell? ⟨Z, oz, none⟩ = some (.bool false) ∧ (w1.setCell ⟨Z, oz + 1, none⟩ v').frozen? ⟨Z, oz, none⟩ = false ∧ (w1.setCell ⟨Z, oz + 1, none⟩ v').cell? ⟨Z, oz + 1, none⟩ = some v' ∧
  QuoRes w Z oz cs t vz (A + y) ((w1.setCell ⟨Z, oz + 1, none⟩ v').setCell ⟨Z, oz, none⟩ (.bool false)) := by
  rintro wx w1 v' hFx ⟨v, hv, a1, a2, a3⟩;cases hv;obtain ⟨Aq, cq, hs⟩ := a1.shape;have a2 : Fr (fun i => natBlk vz = some i) w w1 := (hFx.mono (fun _ _ h => h.elim)).trans a2 (fun _ _ h => h);obtain ⟨f1, f2, f3, f4, f5, _, f6⟩ := quo_fin Z oz cs t vz v' (A + y) w w1 hZ z0 z1 (fun g h => (hzb g h).1) a1 a2 (fun g h => by
   rcases a3 g h with h2 | h2;· exact .inl h2
   · exact .inr (by have := hFx.size; omega))
  exact ⟨_, _, _, hs, limbs_len_pos (by omega), f1, f2, f3, f4, f6⟩
 have FIN := hid fin;have Z1 := hid z1;have q0 : ((false : Bool) == false) = true := rfl;clear hvz hvy hzb hyb fin z0 z1 hZ;subst hz; subst hyy;rw [show ([y] : List Nat).length = 1 from rfl] at *
 generalize (limbs A).length = n2 at *
 go_enter Tryz.func145, Tryz.ntmps145;go_wp2_with fail;go_quiet (fail);go_wp2_with fail;have hFd : Fr NoB w (w.drewN nq).drew := ((Fr.refl _ _).drewN nq).drew;have HD2 := hid (HD.out _ hFd);have FIN2 := hid (fun w1 v' h => FIN.out _ w1 v' hFd h);clear hFd HD FIN;go_region_with (first | (go_at_call 175; refine HD2.out.mono ?_; rintro e w1 ⟨v', rfl, hres⟩; obtain ⟨Aq, nq', cq, rfl, hr, hb1, q0, g0, q1, hfin⟩ := FIN2.out w1 v' ⟨v', rfl, hres⟩; have k1 : w1.cell? ⟨Z, oz + 1, none⟩ = some (.slice Az n2 cz) := (by rw [blk_cell hb1]; exact Z1.out); have f1 : w1.frozen? ⟨Z, oz + 1, none⟩ = false := blk_frozen hb1 _; have N := hid hfin; clear hb1 hfin hres));all_goals
  have hd : decide (0 < nq') = true := decide_eq_true hr;go_wp2_with fail;go_ret;exact ⟨rfl, N.out⟩
end Go.Proofs.YteokhhepnoelhaaGreatDoor
