/-
  big.Int.Quo in place and big.Int.Rem by one word; BigInt.Quo and BigInt.Rem over them.
-/
import Derived.Test.YteokhhepnoelhaaGreatDoorXbe
import Derived.Test.YteokhhepnoelhaaGreatDoorXal
import Derived.StillTailTactics
import Derived.Test.YteokhhepnoelhaaGreatDoorXaz
import Derived.Test.YteokhhepnoelhaaGreatDoorXaf
set_option linter.unusedVariables false
set_option linter.unusedSimpArgs false
namespace Go.Proofs.YteokhhepnoelhaaGreatDoor
open Go.RowKit
theorem still_cell (W : World) : ∀ p, ({ W with drawn := W.drawn + 1 } : World).cell? p = W.cell? p := fun _ => rfl
def QuoRes (w : World) (Z oz : Nat) (cs : Array Value) (t : TypeId) (vz : Value) (n : Nat) (w' : World) : Prop :=
 ∃ v', BlkAt w' Z (setInt cs oz v') t ∧ NatAt w' v' (limbs n) ∧ (∀ g, natBlk v' = some g → natBlk vz = some g ∨ w.heap.size ≤ g) ∧ Fr (fun i => i = Z ∨ natBlk vz = some i) w w'
theorem quo_fin (Z oz : Nat) (cs : Array Value) (t : TypeId) (vz v' : Value) (n : Nat) (w w1 : World) (hZ : BlkAt w Z cs t) (h0 : cs[oz]? = some (.bool false)) (h1 : cs[oz + 1]? = some vz) (hzb : ∀ g, natBlk vz = some g → g ≠ Z)
 (hv : NatAt w1 v' (limbs n)) (hF : Fr (fun i => natBlk vz = some i) w w1) (hg : ∀ g, natBlk v' = some g → natBlk vz = some g ∨ w.heap.size ≤ g) :
 BlkAt w1 Z cs t ∧ (w1.setCell ⟨Z, oz + 1, none⟩ v').cell? ⟨Z, oz, none⟩ = some (.bool false) ∧ (w1.setCell ⟨Z, oz + 1, none⟩ v').frozen? ⟨Z, oz, none⟩ = false ∧ (w1.setCell ⟨Z, oz + 1, none⟩ v').cell? ⟨Z, oz + 1, none⟩ = some v' ∧
  Fr (fun i => i = Z) w1 (w1.setCell ⟨Z, oz + 1, none⟩ v') ∧ QuoRes w Z oz cs t vz n (((w1.setCell ⟨Z, oz + 1, none⟩ v').drew).setCell ⟨Z, oz, none⟩ (.bool false)) ∧ QuoRes w Z oz cs t vz n ((w1.setCell ⟨Z, oz + 1, none⟩ v').setCell ⟨Z, oz, none⟩ (.bool false)) := by
 have hb1 : BlkAt w1 Z cs t := hF.blk hZ (fun h => hzb Z h rfl);have s1 := blk_set hb1 (oz + 1) v';have s0 := blk_set s1 oz (.bool false);have hlt := (Array.getElem?_eq_some_iff.1 h1).1;have lz := blk_lt hZ;have hF1 : Fr (fun i => i = Z) w1 (w1.setCell ⟨Z, oz + 1, none⟩ v') := Fr.setCell (S := fun i => i = Z) (p := ⟨Z, oz + 1, none⟩) (Fr.refl _ _) (fun _ => rfl) _;have hF2 : Fr (fun i => i = Z) w1 ((w1.setCell ⟨Z, oz + 1, none⟩ v').setCell ⟨Z, oz, none⟩ (.bool false)) := Fr.setCell (S := fun i => i = Z) (p := ⟨Z, oz, none⟩) hF1 (fun _ => rfl) _;have hvn : ∀ g, natBlk v' = some g → g ≠ Z := fun g h => by
  rcases hg g h with h2 | h2;· exact hzb g h2
  · omega
 have N : QuoRes w Z oz cs t vz n ((w1.setCell ⟨Z, oz + 1, none⟩ v').setCell ⟨Z, oz, none⟩ (.bool false)) :=
  ⟨v', s0, hv.fr hF2 (fun g h => hvn g h), hg, (hF.mono (fun i _ h => .inr h)).trans hF2 (fun i _ h => .inl h)⟩
 refine ⟨hb1, by rw [blk_cell s1, Array.getElem?_setIfInBounds, if_neg (by omega)]; exact h0, blk_frozen s1 _, by rw [blk_cell s1, Array.getElem?_setIfInBounds, if_pos rfl, if_pos hlt], hF1, ?_, N⟩;obtain ⟨u, a1, a2, a3, a4⟩ := N;exact ⟨u, a1, a2, a3, a4.drew⟩
set_option maxRecDepth 100000 in
set_option maxHeartbeats 4000000 in
theorem intRem (Z oz X ox Yb oy A y : Nat) (cs : Array Value) (t : TypeId) (vz vx vy : Value) (zs : List Nat) (w : World) (hZX : X ≠ Z) (hZ : BlkAt w Z cs t) (z0 : cs[oz]? = some (.bool false)) (z1 : cs[oz + 1]? = some vz)
 (x0 : w.cell? ⟨X, ox, none⟩ = some (.bool false)) (x1 : w.cell? ⟨X, ox + 1, none⟩ = some vx) (y1 : w.cell? ⟨Yb, oy + 1, none⟩ = some vy)
 (hvz : NatAt w vz zs) (hvx : NatAt w vx (limbs A)) (hvy : NatAt w vy (limbs y)) (hzb : ∀ g, natBlk vz = some g → g ≠ Z ∧ g ≠ X) (hy2 : 2 ≤ y) (hyw : y < WB) (hl : (limbs A).length ≤ 900) :
 Calls Tryz.prog 200 #[.pointer (some ⟨Z, oz, none⟩), .pointer (some ⟨X, ox, none⟩), .pointer (some ⟨Yb, oy, none⟩)] w
  fun e w' => e = .returned (.pointer (some ⟨Z, oz, none⟩)) ∧ QuoRes w Z oz cs t vz (A % y) w' := by
 have c1 : w.cell? ⟨Z, oz + 1, none⟩ = some vz := by rw [blk_cell hZ]; exact z1
 have hFd : Fr NoB w w.drew := (Fr.refl _ _).drew;have HD := hid (natDivOne (.slice none 0 0) vz vx vy [] zs A y w.drew (NatAt.nil _) (hvz.fr hFd (fun _ _ h => h)) (fun g h => by cases h) (hvx.fr hFd (fun _ _ h => h)) (hvy.fr hFd (fun _ _ h => h)) hy2 hyw hl);obtain ⟨Az, cz, hz⟩ := hvz.shape;obtain ⟨Ax, cx, hx⟩ := hvx.shape;obtain ⟨Ay, cy, hyy⟩ := hvy.shape;have fin : ∀ (w1 : World) (vq vr : Value), DivBoth w.drew (.slice none 0 0) vz A y (.returned (.tuple #[vq, vr])) w1 → ∃ Aq nq cq Ar nr cr, vq = .slice Aq nq cq ∧ vr = .slice Ar nr cr ∧ BlkAt w1 Z cs t ∧
  (w1.setCell ⟨Z, oz + 1, none⟩ vr).cell? ⟨Z, oz, none⟩ = some (.bool false) ∧ (w1.setCell ⟨Z, oz + 1, none⟩ vr).frozen? ⟨Z, oz, none⟩ = false ∧ (w1.setCell ⟨Z, oz + 1, none⟩ vr).cell? ⟨Z, oz + 1, none⟩ = some vr ∧
  (w1.setCell ⟨Z, oz + 1, none⟩ vr).cell? ⟨X, ox, none⟩ = some (.bool false) ∧ QuoRes w Z oz cs t vz (A % y) ((w1.setCell ⟨Z, oz + 1, none⟩ vr).setCell ⟨Z, oz, none⟩ (.bool false)) := by
  rintro w1 vq vr ⟨v, v2, hv, a1, a2, a3, a4, a5, a6⟩;cases hv;obtain ⟨Aq, cq, hs⟩ := a1.shape;obtain ⟨Ar, cr, hs2⟩ := a2.shape;have a3 : Fr (fun i => natBlk vz = some i) w w1 := (hFd.mono (fun _ _ h => h.elim)).trans (a3.mono (fun i _ h => h.resolve_left (by intro h; cases h))) (fun _ _ h => h);obtain ⟨f1, f2, f3, f4, f5, _, f6⟩ := quo_fin Z oz cs t vz vr (A % y) w w1 hZ z0 z1 (fun g h => (hzb g h).1) a2 a3 a5;have hx1 : w1.cell? ⟨X, ox, none⟩ = some (.bool false) := a3.cell' x0 (fun h => (hzb X h).2 rfl);exact ⟨_, _, _, _, _, _, hs, hs2, f1, f2, f3, f4, f5.cell' hx1 hZX, f6⟩
 have FIN := hid fin;have Z1 := hid z1;clear hvz hvx hvy hzb hFd fin z0 z1 hZ;subst hz; subst hx; subst hyy;generalize (limbs y).length = n1 at *
 generalize (limbs A).length = n2 at *
 generalize zs.length = n3 at *
 go_enter Tryz.func200, Tryz.ntmps200;go_wp2_with fail;go_region_with (first | (go_at_call 179; refine HD.out.mono ?_; rintro e w1 ⟨vq, vr, rfl, hr⟩; obtain ⟨Aq, nq, cq, Ar, nr, cr, rfl, rfl, hb1, q0, g0, q1, qx, hfin⟩ := FIN.out w1 vq vr ⟨vq, vr, rfl, hr⟩; have k1 : w1.cell? ⟨Z, oz + 1, none⟩ = some (.slice Az n3 cz) := (by rw [blk_cell hb1]; exact Z1.out); have f1 : w1.frozen? ⟨Z, oz + 1, none⟩ = false := blk_frozen hb1 _; have N := hid hfin; clear hb1 hr hfin));all_goals
  by_cases hr : 0 < nr;· have hd : decide (0 < nr) = true := decide_eq_true hr;go_wp2_with fail;go_ret;exact ⟨rfl, N.out⟩
  · have hd : decide (0 < nr) = false := decide_eq_false hr;go_wp2_with fail;go_ret;exact ⟨rfl, N.out⟩
def acZ : List Nat → Nat → List Nat
 | [], _ => []
 | x :: xs, c => (x + c) % WB :: acZ xs ((x + c) / WB)
def acC : List Nat → Nat → Nat
 | [], c => c
 | x :: xs, c => acC xs ((x + c) / WB)
theorem acZ_length (xs : List Nat) : ∀ c, (acZ xs c).length = xs.length := by
 induction xs with
 | nil => intro c; rfl
 | cons x xs ih => intro c; rw [acZ, List.length_cons, ih, List.length_cons]
theorem ac_append (xs ys : List Nat) : ∀ c, acZ (xs ++ ys) c = acZ xs c ++ acZ ys (acC xs c) ∧ acC (xs ++ ys) c = acC ys (acC xs c) := by
 induction xs with
 | nil => intro c; exact ⟨rfl, rfl⟩
 | cons x xs ih =>
  intro c;obtain ⟨p, q⟩ := ih ((x + c) / WB);exact ⟨by rw [List.cons_append, acZ, p, acZ, acC, List.cons_append], by rw [List.cons_append, acC, q, acC]⟩
theorem ac_zero (xs : List Nat) (h : ∀ x ∈ xs, x < WB) : acZ xs 0 = xs ∧ acC xs 0 = 0 := by
 induction xs with
 | nil => exact ⟨rfl, rfl⟩
 | cons x xs ih =>
  have hx := h x (by simp);obtain ⟨p, q⟩ := ih (fun u hu => h u (by simp [hu]));have e1 : (x + 0) % WB = x := by rw [Nat.add_zero]; exact Nat.mod_eq_of_lt hx
  have e2 : (x + 0) / WB = 0 := by rw [Nat.add_zero]; exact Nat.div_eq_of_lt hx
  exact ⟨by rw [acZ, e1, e2, p], by rw [acC, e2, q]⟩
theorem nval_ac (xs : List Nat) : ∀ c, nval (acZ xs c) + WB ^ xs.length * acC xs c = nval xs + c := by
 induction xs with
 | nil => intro c; simp [acZ, acC, nval]
 | cons x xs ih =>
  intro c;have i := ih ((x + c) / WB);have h := Nat.div_add_mod (x + c) WB;rw [acZ, acC, nval, nval, List.length_cons, Nat.pow_succ, Nat.mul_comm (WB ^ _) WB, Nat.mul_assoc];generalize (x + c) / WB = q at *
  generalize (x + c) % WB = r at *
  have i2 : WB * (nval (acZ xs q) + WB ^ xs.length * acC xs q) = WB * (nval xs + q) := by rw [i]
  rw [Nat.mul_add, Nat.mul_add] at i2;omega
theorem acC_le (xs : List Nat) : ∀ c, c ≤ 1 → (∀ x ∈ xs, x < WB) → acC xs c ≤ 1 := by
 induction xs with
 | nil => intro c hc _; exact hc
 | cons x xs ih =>
  intro c hc h;have hx := h x (by simp);refine ih _ ?_ (fun u hu => h u (by simp [hu]));have : (x + c) / WB < 2 := (Nat.div_lt_iff_lt_mul WB_pos).2 (by omega);omega
theorem acZ_lt (xs : List Nat) : ∀ c, ∀ u ∈ acZ xs c, u < WB := by
 induction xs with
 | nil => intro c u hu; simp [acZ] at hu
 | cons x xs ih =>
  intro c u hu;rw [acZ] at hu;rcases List.mem_cons.1 hu with rfl | hu;· exact Nat.mod_lt _ WB_pos
  · exact ih _ u hu
theorem set_same (cs : Array Value) (o : Nat) (v : Value) (h : cs[o]? = some v) : cs.setIfInBounds o v = cs := by
 apply Array.ext_getElem?;intro i;rw [Array.getElem?_setIfInBounds];by_cases e : o = i;· subst e;rw [if_pos rfl, if_pos (Array.getElem?_eq_some_iff.1 h).1, h]
 · rw [if_neg e]
theorem putV_keep (vs : List Value) : ∀ (cs : Array Value) (o : Nat), (∀ (j : Nat) (v : Value), vs[j]? = some v → cs[o + j]? = some v) → putV cs o vs = cs := by
 induction vs with
 | nil => intro cs o _; rfl
 | cons v vs ih =>
  intro cs o h;have h0 : cs.setIfInBounds o v = cs := set_same cs o v (by simpa using h 0 v rfl);rw [putV, h0];exact ih cs (o + 1) (fun j u hj => by rw [show o + 1 + j = o + (j + 1) by omega]; exact h (j + 1) u (by simpa using hj))
theorem copy_putV (cs : Array Value) (o : Nat) (vs : List Value) (h : o + vs.length ≤ cs.size) : (cs.toList.take o ++ (vs ++ cs.toList.drop (o + vs.length))).toArray = putV cs o vs := by
 apply Array.ext_getElem?;intro i;rw [List.getElem?_toArray];have hl : cs.toList.length = cs.size := Array.length_toList;have ht : (cs.toList.take o).length = o := by rw [List.length_take, hl]; omega
 by_cases h1 : i < o;· rw [putV_get_out _ _ _ _ (.inl h1), List.getElem?_append_left (by omega), List.getElem?_take_of_lt h1, Array.getElem?_toList]
 · rw [List.getElem?_append_right (by omega), ht];by_cases h2 : i < o + vs.length
   · obtain ⟨j, rfl⟩ : ∃ j, i = o + j := ⟨i - o, by omega⟩
     rw [putV_get_in _ _ _ _ h (by omega), List.getElem?_append_left (by omega), show o + j - o = j by omega]
   · rw [putV_get_out _ _ _ _ (.inr (by omega)), List.getElem?_append_right (by omega), List.getElem?_drop, Array.getElem?_toList, show o + vs.length + (i - o - vs.length) = i by omega]
theorem nval_addOne (x y : Nat) (xr : List Nat) : nval (((x + y) % WB :: acZ xr ((x + y) / WB)) ++ [acC xr ((x + y) / WB)]) = nval (x :: xr) + y := by
 have h := nval_ac (x :: xr) y;have e : ∀ (zs : List Nat) (c : Nat), nval (zs ++ [c]) = nval zs + WB ^ zs.length * c := by
  intro zs c;induction zs with
  | nil => simp [nval]
  | cons z zs ih => rw [List.cons_append, nval, ih, nval, List.length_cons, Nat.pow_succ, Nat.mul_add, Nat.mul_comm (WB ^ _) WB, Nat.mul_assoc]; omega
 have hl : ((x + y) % WB :: acZ xr ((x + y) / WB)).length = (x :: xr).length := by rw [List.length_cons, List.length_cons, acZ_length]
 rw [acZ, acC] at h;rw [e, hl];exact h
end Go.Proofs.YteokhhepnoelhaaGreatDoor
