/-
  BigInt.Set between any two; decimalHalf; BigInt.Mul by a word.
-/
import Derived.Test.YteokhhepnoelhaaGreatDoorXbi
import Derived.Test.YteokhhepnoelhaaGreatDoorXai
import Derived.Test.YteokhhepnoelhaaGreatDoorXah
import Derived.Test.YteokhhepnoelhaaGreatDoorXan
import Derived.Deep.Cut
import Derived.Deep.DeepCutAuto
set_option linter.unusedVariables false
set_option linter.unusedSimpArgs false
namespace Go.Proofs.YteokhhepnoelhaaGreatDoor
open Go.RowKit
set_option maxRecDepth 100000 in
set_option maxHeartbeats 2000000 in
theorem bigSet (Z oz X ox : Nat) (cs csx : Array Value) (t tx : TypeId) (mz : Bool) (vz vx : Value) (zs xs : List Nat) (w : World) (hZX : X ≠ Z) (hZ : BlkAt w Z cs t) (z0 : cs[oz]? = some (.bool false)) (z1 : cs[oz + 1]? = some vz) (z2 : cs[oz + 2]? = some (.bool mz))
 (hX : BlkAt w X csx tx) (x0 : csx[ox]? = some (.bool false)) (x1 : csx[ox + 1]? = some vx) (x2 : csx[ox + 2]? = some (.bool false)) (hvz : NatAt w vz zs) (hvx : NatAt w vx xs) (hl : xs.length ≤ 900) (hzb : ∀ g, natBlk vz = some g → g ≠ Z ∧ g ≠ X) (hxb : ∀ g, natBlk vx = some g → g ≠ Z) :
 Calls Tryz.prog 46 #[.pointer (some ⟨Z, oz, none⟩), .pointer (some ⟨X, ox, none⟩)] w fun e w' => e = .returned (.pointer (some ⟨Z, oz, none⟩)) ∧ SetRes w Z oz (cs.setIfInBounds (oz + 2) (.bool false)) t vz false xs w' := by
 have k2 : w.cell? ⟨Z, oz + 2, none⟩ = some (.bool mz) := by rw [blk_cell hZ]; exact z2
 have f2 : w.frozen? ⟨Z, oz + 2, none⟩ = false := blk_frozen hZ _;have kx : w.cell? ⟨X, ox + 2, none⟩ = some (.bool false) := by rw [blk_cell hX]; exact x2
 have s2 := blk_set hZ (oz + 2) (.bool false);have hF : Fr (fun i => i = Z) w (w.setCell ⟨Z, oz + 2, none⟩ (.bool false)).drew := (Fr.setCell (S := fun i => i = Z) (p := ⟨Z, oz + 2, none⟩) (Fr.refl _ _) (fun _ => rfl) _).drew;have HI := hid (intSet Z oz X ox (cs.setIfInBounds (oz + 2) (.bool false)) csx t tx false false vz vx zs xs (w.setCell ⟨Z, oz + 2, none⟩ (.bool false)).drew s2
  (by rw [Array.getElem?_setIfInBounds, if_neg (by omega)]; exact z0) (by rw [Array.getElem?_setIfInBounds, if_neg (by omega)]; exact z1) (hF.blk hX hZX) x0 x1
  (hvz.fr hF (fun g h h2 => (hzb g h).1 h2)) (hvx.fr hF (fun g h h2 => hxb g h h2)) hl (fun h => absurd h.symm hZX) hzb)
 have HF := hid hF;have HSZ : Hid ((w.setCell ⟨Z, oz + 2, none⟩ (.bool false)).drew.heap.size = w.heap.size) := hid (by simp [World.drew]);clear hF s2 hvz hvx hzb hxb hZ hX z0 z1 z2 x0 x1 x2;go_enter Tryz.func46, Tryz.ntmps46;go_wp2_with fail;go_still_tail 6, (by kernel_rfl)
 go_wp2_with (first | (go_at_call 68; refine HI.out.mono ?_; rintro e w1 ⟨rfl, v', a1, a2, a3, a4⟩));have N := hid (show SetRes w Z oz (cs.setIfInBounds (oz + 2) (.bool false)) t vz false xs w1 from ⟨v', a1, a2, fun g hg => by rw [← HSZ.out]; exact a3 g hg, (HF.out.mono (fun i _ h => .inl h)).trans a4 (fun _ _ h => h)⟩);clear a1 a2 a3 a4;go_wp2_with fail;go_ret;exact ⟨rfl, N.out⟩
theorem intAbsSelf (D o : Nat) (cs : Array Value) (t : TypeId) (w : World) (hD : BlkAt w D cs t) (c0 : cs[o]? = some (.bool false)) :
 Calls Tryz.prog 198 #[.pointer (some ⟨D, o, none⟩), .pointer (some ⟨D, o, none⟩)] w fun e w' => e = .returned (.pointer (some ⟨D, o, none⟩)) ∧ w' = w.setCell ⟨D, o, none⟩ (.bool false) := by
 have k0 : w.cell? ⟨D, o, none⟩ = some (.bool false) := by rw [blk_cell hD]; exact c0
 have f0 : w.frozen? ⟨D, o, none⟩ = false := blk_frozen hD _;have hq := neq102_same ⟨D, o, none⟩ w;clear hD c0;go_enter Tryz.func198, Tryz.ntmps198;go_wp2_with (go_at_call 68; go_in);go_ret;exact ⟨rfl, rfl⟩
set_option maxRecDepth 100000 in
set_option maxHeartbeats 1000000 in
theorem bigAbsSelf (D o : Nat) (cs : Array Value) (t : TypeId) (m0 : Bool) (w : World) (hD : BlkAt w D cs t) (c0 : cs[o]? = some (.bool false)) (c2 : cs[o + 2]? = some (.bool m0)) :
 Calls Tryz.prog 167 #[.pointer (some ⟨D, o, none⟩), .pointer (some ⟨D, o, none⟩)] w fun e w' => e = .returned (.pointer (some ⟨D, o, none⟩)) ∧ BlkAt w' D ((cs.setIfInBounds (o + 2) (.bool false)).setIfInBounds o (.bool false)) t ∧ Fr (fun i => i = D) w w' := by
 have k2 : w.cell? ⟨D, o + 2, none⟩ = some (.bool m0) := by rw [blk_cell hD]; exact c2
 have f2 : w.frozen? ⟨D, o + 2, none⟩ = false := blk_frozen hD _;have s2 := blk_set hD (o + 2) (.bool false);have hF : Fr (fun i => i = D) w (w.setCell ⟨D, o + 2, none⟩ (.bool false)).drew := (Fr.setCell (S := fun i => i = D) (p := ⟨D, o + 2, none⟩) (Fr.refl _ _) (fun _ => rfl) _).drew;have HI := hid (intAbsSelf D o (cs.setIfInBounds (o + 2) (.bool false)) t (w.setCell ⟨D, o + 2, none⟩ (.bool false)).drew s2 (by rw [Array.getElem?_setIfInBounds, if_neg (by omega)]; exact c0));have N := hid (show BlkAt ((w.setCell ⟨D, o + 2, none⟩ (.bool false)).drew.setCell ⟨D, o, none⟩ (.bool false)) D ((cs.setIfInBounds (o + 2) (.bool false)).setIfInBounds o (.bool false)) t ∧ Fr (fun i => i = D) w ((w.setCell ⟨D, o + 2, none⟩ (.bool false)).drew.setCell ⟨D, o, none⟩ (.bool false)) from
  ⟨blk_set (show BlkAt (w.setCell ⟨D, o + 2, none⟩ (.bool false)).drew D _ t from s2) o (.bool false), Fr.setCell (S := fun i => i = D) (p := ⟨D, o, none⟩) hF (fun _ => rfl) _⟩)
 clear hD c0 c2 s2 hF;go_enter Tryz.func167, Tryz.ntmps167;go_wp2_with fail;go_still_tail 6, (by kernel_rfl)
 go_wp2_with (first | (go_at_call 198; refine HI.out.mono ?_; rintro e w1 ⟨rfl, hw⟩; have M := N.out; rw [← hw] at M; have M2 := hid M; clear hw M));go_ret;exact ⟨rfl, M2.out⟩
set_option maxRecDepth 100000 in
set_option maxHeartbeats 2000000 in
theorem setCoef (D x : Nat) (hx : x < 9223372036854775808) (w : World) (hD : DecAt w D 0 false 0 false (.slice none 0 0) false) :
 Calls Tryz.prog 202 #[.pointer (some ⟨D, 0, none⟩), .int .i64 (x : Int)] w fun e w' => e = .returned (.tuple #[]) ∧ ∃ v, DecAt w' D 0 false 0 false v false ∧ NatAt w' v (limbs x) ∧ (∀ g, natBlk v = some g → w.heap.size ≤ g) ∧ Fr (fun i => i = D) w w' := by
 obtain ⟨⟨h0, h1, h2, h3, h4, h5⟩, f0, f1, f2, f3, f4, f5⟩ := hD.cells;have hDlt := blk_lt hD;have s1 : DecAt (w.setCell ⟨D, 1, none⟩ (.bool false)) D 0 false 0 false (.slice none 0 0) false := blk_set hD 1 (.bool false);have hF1 : Fr (fun i => i = D) w (w.setCell ⟨D, 1, none⟩ (.bool false)) := Fr.setCell (S := fun i => i = D) (p := ⟨D, 1, none⟩) (Fr.refl _ _) (fun _ => rfl) _;have HI := hid (bigSetInt64 D 3 _ 72 false false x (w.setCell ⟨D, 1, none⟩ (.bool false)) s1 rfl rfl rfl hx);have HF1 := hid hF1;have HSZ : Hid ((w.setCell ⟨D, 1, none⟩ (.bool false)).heap.size = w.heap.size) := hid (by simp);have hx0 : decide ((x : Int) < 0) = false := decide_eq_false (by omega);have hx1 : ((x : Int) < 0) = False := eq_false (by omega);clear hD h0 h2 h3 h4 h5 f0 f2 f3 f4 f5 s1 hF1;go_enter Tryz.func202, Tryz.ntmps202;go_wp2_with fail;refine HI.out.mono ?_;rintro e w1 ⟨rfl, v, a1, a2, a3, a4⟩;have a1 : DecAt w1 D 0 false 0 false v false := a1;have HA2 := hid a2; have HA3 := hid a3; have HA4 := hid a4;have HAB := hid (bigAbsSelf D 3 _ 72 false w1.drew (show BlkAt w1.drew D #[.int .i8 0, .bool false, .int .i32 0, .bool false, v, .bool false] 72 from a1) rfl rfl);clear a1 a2 a3 a4;go_wp2_with fail;go_still_tail 6, (by kernel_rfl)
 go_wp2_with (first | (go_at_call 167; refine HAB.out.mono ?_; rintro e w2 ⟨rfl, b1, b2⟩; have b1 : DecAt w2 D 0 false 0 false v false := b1; have k0 := (b1.cells).1.1; have g0 := (b1.cells).2.1; have HB1 := hid b1; have HB2 := hid b2; clear b1 b2));have N := hid (show ∃ v, DecAt (w2.setCell ⟨D, 0, none⟩ (.int .i8 0)) D 0 false 0 false v false ∧ NatAt (w2.setCell ⟨D, 0, none⟩ (.int .i8 0)) v (limbs x) ∧ (∀ g, natBlk v = some g → w.heap.size ≤ g) ∧ Fr (fun i => i = D) w (w2.setCell ⟨D, 0, none⟩ (.int .i8 0)) from by
  have hF2 : Fr (fun i => i = D) w1 (w2.setCell ⟨D, 0, none⟩ (.int .i8 0)) := Fr.setCell (S := fun i => i = D) (p := ⟨D, 0, none⟩) (((Fr.refl _ _).drew).trans HB2.out (fun _ _ h => h)) (fun _ => rfl) _;refine ⟨v, blk_set HB1.out 0 (.int .i8 0), HA2.out.fr hF2 (fun g hg h => ?_), fun g hg => by rw [← HSZ.out]; exact HA3.out g hg, (HF1.out.trans HA4.out (fun _ _ h => h)).trans hF2 (fun _ _ h => h)⟩;have h : g = D := h;have h2 := HA3.out g hg;rw [HSZ.out] at h2;omega)
 go_wp2_with fail;go_end0;exact ⟨rfl, N.out⟩
set_option maxRecDepth 100000 in
set_option maxHeartbeats 1000000 in
theorem setFinite (D x : Nat) (e : Int) (hx : x < 9223372036854775808) (w : World) (hD : DecAt w D 0 false 0 false (.slice none 0 0) false) :
 Calls Tryz.prog 174 #[.pointer (some ⟨D, 0, none⟩), .int .i64 (x : Int), .int .i32 e] w fun en w' => en = .returned (.pointer (some ⟨D, 0, none⟩)) ∧ ∃ v, DecAt w' D 0 false e false v false ∧ NatAt w' v (limbs x) ∧ (∀ g, natBlk v = some g → w.heap.size ≤ g) ∧ Fr (fun i => i = D) w w' := by
 have H := hid (setCoef D x hx w hD);have hDlt := blk_lt hD;clear hD;go_enter Tryz.func174, Tryz.ntmps174;go_wp2_with fail;refine H.out.mono ?_;rintro en w1 ⟨rfl, v, a1, a2, a3, a4⟩;have k2 := (a1.cells).1.2.2.1;have g2 := (a1.cells).2.2.2.1;have N := hid (show ∃ v, DecAt (w1.setCell ⟨D, 2, none⟩ (.int .i32 e)) D 0 false e false v false ∧ NatAt (w1.setCell ⟨D, 2, none⟩ (.int .i32 e)) v (limbs x) ∧ (∀ g, natBlk v = some g → w.heap.size ≤ g) ∧ Fr (fun i => i = D) w (w1.setCell ⟨D, 2, none⟩ (.int .i32 e)) from by
  have hF2 : Fr (fun i => i = D) w1 (w1.setCell ⟨D, 2, none⟩ (.int .i32 e)) := Fr.setCell (S := fun i => i = D) (p := ⟨D, 2, none⟩) (Fr.refl _ _) (fun _ => rfl) _;refine ⟨v, a1.set2 e, a2.fr hF2 (fun g hg h => ?_), a3, a4.trans hF2 (fun _ _ h => h)⟩;have h : g = D := h;have h2 := a3 g hg;omega)
 clear a1 a2 a3 a4;go_wp2_with fail;go_ret;exact ⟨rfl, N.out⟩
def NewDec (w : World) (x : Nat) (e : Int) (en : Ending) (w' : World) : Prop :=
 en = .returned (.pointer (some ⟨w.heap.size, 0, none⟩)) ∧ ∃ v, DecAt w' w.heap.size 0 false e false v false ∧ NatAt w' v (limbs x) ∧ (∀ g, natBlk v = some g → w.heap.size < g) ∧ Fr NoB w w'
set_option maxRecDepth 100000 in
set_option maxHeartbeats 1000000 in
theorem newDec (x : Nat) (e : Int) (hx : x < 9223372036854775808) (w : World) : Calls Tryz.prog 144 #[.int .i64 (x : Int), .int .i32 e] w (NewDec w x e) := by
 have hb : DecAt (w.alloc (.cells #[.int .i8 0, .bool false, .int .i32 0, .bool false, .slice none 0 0, .bool false] 72)) w.heap.size 0 false 0 false (.slice none 0 0) false := blk_new w _;have hF : Fr NoB w (w.alloc (.cells #[.int .i8 0, .bool false, .int .i32 0, .bool false, .slice none 0 0, .bool false] 72)) := (Fr.refl _ _).alloc _;have hsz : (w.alloc (.cells #[.int .i8 0, .bool false, .int .i32 0, .bool false, .slice none 0 0, .bool false] 72)).heap.size = w.heap.size + 1 := by simp
 have HI := hid (setFinite w.heap.size x e hx _ hb);have FIN := hid (show ∀ v w1, DecAt w1 w.heap.size 0 false e false v false → NatAt w1 v (limbs x) → (∀ g, natBlk v = some g → (w.alloc (.cells #[.int .i8 0, .bool false, .int .i32 0, .bool false, .slice none 0 0, .bool false] 72)).heap.size ≤ g) → Fr (fun i => i = w.heap.size) (w.alloc (.cells #[.int .i8 0, .bool false, .int .i32 0, .bool false, .slice none 0 0, .bool false] 72)) w1 → NewDec w x e (.returned (.pointer (some ⟨w.heap.size, 0, none⟩))) w1 from
  fun v w1 a1 a2 a3 a4 => ⟨rfl, v, a1, a2, fun g hg => by have := a3 g hg; omega, hF.trans a4 (fun i hi h => by have h : i = w.heap.size := h; omega)⟩)
 clear hb hF hsz;go_enter Tryz.func144, Tryz.ntmps144;go_wp2_with fail;refine HI.out.mono ?_;rintro en w1 ⟨rfl, v, a1, a2, a3, a4⟩;have N := hid (FIN.out v w1 a1 a2 a3 a4);clear a1 a2 a3 a4;go_wp2_with fail;go_ret;exact N.out
theorem decimalHalf_any (w : World) : Calls Tryz.prog 94 #[] w (NewDec w 5 (-1)) := by
 have H := hid (newDec 5 (-1) (by omega) w);go_enter Tryz.func94, Tryz.ntmps94;go_wp2_with fail;refine H.out.mono ?_;rintro en w1 ⟨rfl, r⟩;have N := hid (show NewDec w 5 (-1) _ w1 from ⟨rfl, r⟩);clear r;go_wp2_with fail;go_ret;exact N.out
set_option maxRecDepth 100000 in
set_option maxHeartbeats 2000000 in
theorem natMul2 (v vx vy stk : Value) (zs : List Nat) (X y : Nat) (w : World) (hv : NatAt w v zs) (hvx : NatAt w vx [y]) (hvy : NatAt w vy (limbs X)) (h0 : X ≠ 0) (hy0 : y ≠ 0) (hy : y < WB) (hl : (limbs X).length ≤ 900) :
 Calls Tryz.prog 234 #[v, stk, vx, vy] w (NatRes w v (X * y)) := by
 have hl1 := limbs_len_pos h0;by_cases h1 : (limbs X).length = 1
 · -- one word each
   have hX : X < WB := by
    have h := nval_limbs X;obtain ⟨a, ha⟩ : ∃ a, limbs X = [a] := by
     cases h2 : limbs X with
     | nil => rw [h2] at h1; cases h1
     | cons a b => cases b with
      | nil => exact ⟨a, rfl⟩
      | cons c d => rw [h2] at h1; simp at h1
    rw [ha] at h;have := limbs_lt X a (by rw [ha]; simp);simp [nval] at h;omega
   rw [Nat.mul_comm];have hlx : limbs X = [X] := limbs_small h0 hX;rw [hlx] at hvy;exact natMul1 v vx vy stk zs y X w hv (by rw [limbs_small hy0 hy]; exact hvx) hvy hy0 hX (by rw [limbs_small hy0 hy]; simp)
 · have HM := hid (natMul1 v vy vx stk zs X y w hv hvy hvx h0 hy hl);obtain ⟨Ay, cy, rfl⟩ := hvy.shape;obtain ⟨Ax, cx, rfl⟩ := hvx.shape;rw [show ([y] : List Nat).length = 1 from rfl];have q1 : ((1 : Int) < ((limbs X).length : Int)) = True := eq_true (by omega);have q2 : (1 < (limbs X).length) = True := eq_true (by omega);clear hv hvx hvy h0 hy0 hy;generalize (limbs X).length = n at *
   go_enter Tryz.func234, Tryz.ntmps234;go_wp2_with fail;refine HM.out.mono ?_;rintro e w1 ⟨v', rfl, k1, k2, k3⟩;have N := hid (show NatRes w v (X * y) (.returned v') w1 from ⟨v', rfl, k1, k2, k3⟩);clear k1 k2 k3;go_wp2_with fail;go_ret;exact N.out
set_option maxRecDepth 100000 in
set_option maxHeartbeats 4000000 in
theorem intMulStk (Z oz Yb oy Y x : Nat) (cs csy : Array Value) (t ty : TypeId) (vz vy : Value) (w : World) (hZY : Yb ≠ Z) (hZ : BlkAt w Z cs t) (z0 : cs[oz]? = some (.bool false)) (z1 : cs[oz + 1]? = some vz)
 (hY : BlkAt w Yb csy ty) (y0 : csy[oy]? = some (.bool false)) (y1 : csy[oy + 1]? = some vy)
 (hvz : NatAt w vz [x]) (hvy : NatAt w vy (limbs Y)) (hzb : ∀ g, natBlk vz = some g → g ≠ Z ∧ g ≠ Yb) (hY0 : Y ≠ 0) (hx0 : x ≠ 0) (hxw : x < WB) (hl : (limbs Y).length ≤ 900) :
 Calls Tryz.prog 201 #[.pointer (some ⟨Z, oz, none⟩), .pointer none, .pointer (some ⟨Z, oz, none⟩), .pointer (some ⟨Yb, oy, none⟩)] w
  fun e w' => e = .returned (.tuple #[]) ∧ QuoRes w Z oz cs t vz (Y * x) w' := by
 have c0 : w.cell? ⟨Z, oz, none⟩ = some (.bool false) := by rw [blk_cell hZ]; exact z0
 have c1 : w.cell? ⟨Z, oz + 1, none⟩ = some vz := by rw [blk_cell hZ]; exact z1
 have d1 : w.cell? ⟨Yb, oy + 1, none⟩ = some vy := by rw [blk_cell hY]; exact y1
 have d0 : w.cell? ⟨Yb, oy, none⟩ = some (.bool false) := by rw [blk_cell hY]; exact y0
 have hq := eql102_other (a := ⟨Z, oz, none⟩) (b := ⟨Yb, oy, none⟩) w (fun e => hZY (congrArg Addr.block e).symm) hZ hY;have hFd : Fr NoB w w.drew := (Fr.refl _ _).drew;have HD := hid (natMul2 vz vz vy (.pointer none) [x] Y x w.drew (hvz.fr hFd (fun _ _ h => h)) (hvz.fr hFd (fun _ _ h => h)) (hvy.fr hFd (fun _ _ h => h)) hY0 hx0 hxw hl);obtain ⟨Az, cz, hz⟩ := hvz.shape;obtain ⟨Ay, cy, hyy⟩ := hvy.shape;have fin : ∀ (w1 : World) (v' : Value), NatRes w.drew vz (Y * x) (.returned v') w1 → ∃ Aq nq cq, v' = .slice Aq nq cq ∧ 0 < nq ∧ BlkAt w1 Z cs t ∧
  (w1.setCell ⟨Z, oz + 1, none⟩ v').cell? ⟨Z, oz, none⟩ = some (.bool false) ∧ (w1.setCell ⟨Z, oz + 1, none⟩ v').frozen? ⟨Z, oz, none⟩ = false ∧ (w1.setCell ⟨Z, oz + 1, none⟩ v').cell? ⟨Z, oz + 1, none⟩ = some v' ∧
  (w1.setCell ⟨Z, oz + 1, none⟩ v').cell? ⟨Yb, oy, none⟩ = some (.bool false) ∧ QuoRes w Z oz cs t vz (Y * x) (((w1.setCell ⟨Z, oz + 1, none⟩ v').drew).setCell ⟨Z, oz, none⟩ (.bool false)) := by
  rintro w1 v' ⟨v, hv, a1, a2, a3⟩;cases hv;obtain ⟨Aq, cq, hs⟩ := a1.shape;have a2 : Fr (fun i => natBlk vz = some i) w w1 := (hFd.mono (fun _ _ h => h.elim)).trans a2 (fun _ _ h => h);obtain ⟨f1, f2, f3, f4, f5, f6, _⟩ := quo_fin Z oz cs t vz v' (Y * x) w w1 hZ z0 z1 (fun g h => (hzb g h).1) a1 a2 a3;have hy1 : w1.cell? ⟨Yb, oy, none⟩ = some (.bool false) := a2.cell' d0 (fun h => (hzb Yb h).2 rfl);exact ⟨_, _, _, hs, limbs_len_pos (Nat.mul_ne_zero hY0 hx0), f1, f2, f3, f4, f5.cell' hy1 hZY, f6⟩
 have FIN := hid fin;have Z1 := hid z1;clear hvz hvy hzb hFd fin z0 z1 hZ hY y0 y1 d0;subst hz; subst hyy;rw [show ([x] : List Nat).length = 1 from rfl] at *
 generalize (limbs Y).length = n1 at *
 go_enter Tryz.func201, Tryz.ntmps201;go_wp2_with fail;go_upto_region 3 with fail;go_cut [] from 27 to 44 (fun wx => ∃ (w1 : World) (Aq : Option Addr) (nq cq : Nat), wx = w1.setCell ⟨Z, oz + 1, none⟩ (.slice Aq nq cq) ∧ Hid (NatRes w.drew (.slice Az 1 cz) (Y * x) (.returned (.slice Aq nq cq)) w1));case first =>
  go_region_with (first | (go_at_call 234; refine HD.out.mono ?_; rintro e w1 ⟨v', rfl, hr⟩; obtain ⟨Aq, nq, cq, rfl, _, hb1, _⟩ := FIN.out w1 v' ⟨v', rfl, hr⟩; have k1 : w1.cell? ⟨Z, oz + 1, none⟩ = some (.slice Az 1 cz) := (by rw [blk_cell hb1]; exact Z1.out); have f1 : w1.frozen? ⟨Z, oz + 1, none⟩ = false := blk_frozen hb1 _; have HDV := hid (show NatRes w.drew (.slice Az 1 cz) (Y * x) (.returned (.slice Aq nq cq)) w1 from ⟨_, rfl, hr⟩); clear hb1 hr));all_goals
   go_wp2_with fail;go_meet;exact ⟨w1, Aq, nq, cq, rfl, HDV⟩
 case rest =>
  obtain ⟨w1, Aq, nq, cq, rfl, HDV⟩ := hcut;obtain ⟨Aq', nq', cq', e1, hr, hb1, q0, g0, q1, qx, hfin⟩ := FIN.out w1 _ HDV.out;cases e1;have N := hid hfin;clear hb1 hfin HDV FIN HD c1;generalize (w1.setCell ⟨Z, oz + 1, none⟩ (.slice Aq nq cq)) = W at *
  have hd : decide (0 < nq) = true := decide_eq_true hr;go_wp2_with fail;have hsc := still_cell W;go_still_tail 20, (by kernel_rfl)
  clear hsc;go_wp2_with fail;go_end0;exact ⟨rfl, N.out⟩
theorem intMulSelf (Z oz Yb oy Y x : Nat) (cs csy : Array Value) (t ty : TypeId) (vz vy : Value) (w : World) (hZY : Yb ≠ Z) (hZ : BlkAt w Z cs t) (z0 : cs[oz]? = some (.bool false)) (z1 : cs[oz + 1]? = some vz)
 (hY : BlkAt w Yb csy ty) (y0 : csy[oy]? = some (.bool false)) (y1 : csy[oy + 1]? = some vy)
 (hvz : NatAt w vz [x]) (hvy : NatAt w vy (limbs Y)) (hzb : ∀ g, natBlk vz = some g → g ≠ Z ∧ g ≠ Yb) (hY0 : Y ≠ 0) (hx0 : x ≠ 0) (hxw : x < WB) (hl : (limbs Y).length ≤ 900) :
 Calls Tryz.prog 173 #[.pointer (some ⟨Z, oz, none⟩), .pointer (some ⟨Z, oz, none⟩), .pointer (some ⟨Yb, oy, none⟩)] w
  fun e w' => e = .returned (.pointer (some ⟨Z, oz, none⟩)) ∧ QuoRes w Z oz cs t vz (Y * x) w' := by
 have H := hid (intMulStk Z oz Yb oy Y x cs csy t ty vz vy w hZY hZ z0 z1 hY y0 y1 hvz hvy hzb hY0 hx0 hxw hl);clear hZ z0 z1 hY y0 y1 hvz hvy hzb;go_enter Tryz.func173, Tryz.ntmps173;go_wp2_with fail;refine H.out.mono ?_;rintro e w1 ⟨rfl, r⟩;have N := hid r;clear r;go_wp2_with fail;go_ret;exact ⟨rfl, N.out⟩
set_option maxRecDepth 100000 in
set_option maxHeartbeats 2000000 in
theorem bigMulSelf (Z oz Yb oy Y x : Nat) (cs csy : Array Value) (t ty : TypeId) (vz vy : Value) (m0 : Bool) (w : World) (hZY : Yb ≠ Z) (hZ : BlkAt w Z cs t) (z0 : cs[oz]? = some (.bool false)) (z1 : cs[oz + 1]? = some vz) (z2 : cs[oz + 2]? = some (.bool m0))
 (hY : BlkAt w Yb csy ty) (y0 : csy[oy]? = some (.bool false)) (y1 : csy[oy + 1]? = some vy)
 (hvz : NatAt w vz [x]) (hvy : NatAt w vy (limbs Y)) (hzb : ∀ g, natBlk vz = some g → g ≠ Z ∧ g ≠ Yb) (hyZ : ∀ g, natBlk vy = some g → g ≠ Z) (hY0 : Y ≠ 0) (hx0 : x ≠ 0) (hxw : x < WB) (hl : (limbs Y).length ≤ 900) :
 Calls Tryz.prog 143 #[.pointer (some ⟨Z, oz, none⟩), .pointer (some ⟨Z, oz, none⟩), .pointer (some ⟨Yb, oy, none⟩)] w
  fun e w' => e = .returned (.pointer (some ⟨Z, oz, none⟩)) ∧ QuoRes w Z oz (cs.setIfInBounds (oz + 2) (.bool false)) t vz (Y * x) w' := by
 have k2 : w.cell? ⟨Z, oz + 2, none⟩ = some (.bool m0) := by rw [blk_cell hZ]; exact z2
 have f2 : w.frozen? ⟨Z, oz + 2, none⟩ = false := blk_frozen hZ _;have s2 := blk_set hZ (oz + 2) (.bool false);have hF : Fr (fun i => i = Z) w (w.setCell ⟨Z, oz + 2, none⟩ (.bool false)).drew := (Fr.setCell (S := fun i => i = Z) (p := ⟨Z, oz + 2, none⟩) (Fr.refl _ _) (fun _ => rfl) _).drew;have HI := hid (intMulSelf Z oz Yb oy Y x (cs.setIfInBounds (oz + 2) (.bool false)) csy t ty vz vy (w.setCell ⟨Z, oz + 2, none⟩ (.bool false)).drew hZY s2
  (by rw [Array.getElem?_setIfInBounds, if_neg (by omega)]; exact z0) (by rw [Array.getElem?_setIfInBounds, if_neg (by omega)]; exact z1) (hF.blk hY hZY) y0 y1
  (hvz.fr hF (fun g h h2 => (hzb g h).1 h2)) (hvy.fr hF (fun g h h2 => hyZ g h h2)) hzb hY0 hx0 hxw hl)
 have HF := hid hF;have HSZ : Hid ((w.setCell ⟨Z, oz + 2, none⟩ (.bool false)).drew.heap.size = w.heap.size) := hid (by simp [World.drew]);clear hF s2 hvz hvy hzb hyZ hZ z0 z1 z2 hY y0 y1;go_enter Tryz.func143, Tryz.ntmps143;go_wp2_with fail;go_still_tail 9, (by kernel_rfl)
 go_wp2_with (first | (go_at_call 173; refine HI.out.mono ?_; rintro e w1 ⟨rfl, r⟩; have N := hid (r.minus HF.out HSZ.out); clear r));go_ret;exact ⟨rfl, N.out⟩
end Go.Proofs.YteokhhepnoelhaaGreatDoor
