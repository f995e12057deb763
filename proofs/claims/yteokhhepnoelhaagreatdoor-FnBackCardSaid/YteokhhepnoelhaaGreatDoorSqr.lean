/-
  nat.sqr; nat.mul by one word; the thresholds in memory.
-/
import Derived.Test.YteokhhepnoelhaaGreatDoorMulV
set_option linter.unusedVariables false
set_option linter.unusedSimpArgs false
namespace Go.Proofs.YteokhhepnoelhaaGreatDoor
open Go.RowKit

/-- The thresholds of the package, as they lie. -/
structure Thr (w : World) : Prop where
  leaf : w.cell? ⟨9, 0, none⟩ = some (.int .i64 8)
  dr : w.cell? ⟨12, 0, none⟩ = some (.int .i64 40)
  sq : w.cell? ⟨15, 0, none⟩ = some (.int .i64 12)
  ks : w.cell? ⟨16, 0, none⟩ = some (.int .i64 80)
  ka : w.cell? ⟨18, 0, none⟩ = some (.int .i64 40)
theorem Thr.fr {w w' : World} {S : Nat → Prop} (h : Thr w) (hF : Fr S w w') (hS : ∀ i, i < 19 → ¬ S i) : Thr w' :=
  ⟨hF.cell' h.leaf (hS 9 (by omega)), hF.cell' h.dr (hS 12 (by omega)), hF.cell' h.sq (hS 15 (by omega)), hF.cell' h.ks (hS 16 (by omega)), hF.cell' h.ka (hS 18 (by omega))⟩
theorem Thr.size {w : World} (h : Thr w) : 18 < w.heap.size := World.block_lt_of_cell? w _ h.ka

theorem MulAt.nat {w : World} {g sz n X cap : Nat} {ys : List Nat} (h : MulAt w g sz n ys.length X ys ys.length) (h1 : cap ≤ sz) (h2 : n + ys.length ≤ cap) (h3 : cap ≤ 1000000) :
    ∃ L, NatAt w (.slice (some ⟨g, 0, none⟩) (n + ys.length) cap) L ∧ normL L = limbs (X * nval ys) := by
  obtain ⟨A, L, m1, m2, m3, m4, m5, m6, _⟩ := h
  refine ⟨L, .inr ⟨g, cap, A, by rw [m3], m1, by omega, by omega, h3, m5⟩, ?_⟩
  rw [normL_limbs L m4]
  rw [← m3, List.take_length, List.take_length] at m6
  rw [m6]

theorem mulWW (x y : Nat) (hx : x < 18446744073709551616) (hy : y < 18446744073709551616) (w : World) :
    Calls Tryz.prog 253 #[.int .u64 (x : Int), .int .u64 (y : Int)] w fun e w' => e = .returned (.tuple #[.int .u64 ((x * y / 18446744073709551616 : Nat) : Int), .int .u64 ((x * y % 18446744073709551616 : Nat) : Int)]) ∧ w = w' := by
  have M := hid (Tryz.bits_Mul x y hx hy w)
  generalize x * y / 18446744073709551616 = a at *
  generalize x * y % 18446744073709551616 = b at *
  go_enter Tryz.func253, Tryz.ntmps253
  go_wp2_with fail
  refine M.out.mono ?_
  rintro e w1 ⟨rfl, rfl⟩
  go_wp2_with fail
  go_ret2
  exact ⟨rfl, rfl⟩

theorem sqr_one {x : Nat} (hx : x < 18446744073709551616) : normL [x * x % 18446744073709551616, x * x / 18446744073709551616] = limbs (x * x) := by
  rw [normL_limbs]
  · congr 1
    simp only [nval, WB_eq]
    omega
  · intro u hu
    have h2 : x * x / 18446744073709551616 < 18446744073709551616 := Nat.div_lt_of_lt_mul (by
      have := Nat.mul_lt_mul'' hx hx
      exact this)
    rw [WB_eq]
    simp at hu
    rcases hu with rfl | rfl
    · exact Nat.mod_lt _ (by omega)
    · exact h2

set_option maxRecDepth 100000 in
set_option maxHeartbeats 2000000 in
theorem natSqr (v vx : Value) (zs : List Nat) (X : Nat) (w : World) (hv : NatAt w v zs) (hvx : NatAt w vx (limbs X)) (hT : Thr w) (hne : ∀ g, natBlk v = some g → natBlk vx ≠ some g) (h0 : X ≠ 0) (hl : (limbs X).length ≤ 11) (stk : Value) :
    Calls Tryz.prog 216 #[v, stk, vx] w (NatRes w v (X * X)) := by
  have hl1 := limbs_len_pos h0
  obtain ⟨gx, capx, rfl, hcx, hcap, hgx, hcm, hbx⟩ := hvx.cell (fun h => by rw [h] at hl1; simp at hl1)
  have hgne : ∀ g, natBlk v = some g → gx ≠ g := fun g hg e => hne g hg (by rw [← e]; exact hbx)
  by_cases h1 : (limbs X).length = 1
  · obtain ⟨x, hx⟩ : ∃ x, limbs X = [x] := List.length_eq_one_iff.1 h1
    have hXx : X = x := by have := nval_limbs X; rw [hx] at this; simpa [nval] using this.symm
    subst hXx
    have hxb : X < 18446744073709551616 := limbs_lt X X (by rw [hx]; simp)
    have c0 := hcx 0 X (by rw [hx]; rfl)
    have HM := hid (natMake v zs 2 w hv (by omega) (by omega))
    have HW := hid (fun w => mulWW X X hxb hxb w)
    have HSQ := hid (sqr_one hxb)
    rw [h1]
    clear hv hvx hcx hx hne hgne hT hcap h1 hl hl1
    go_enter Tryz.func216, Tryz.ntmps216
    go_wp2_with fail
    refine HM.out.mono ?_
    clear HM
    rintro e w1 ⟨g, cap, cs, rfl, hg, k1, k2, k3, hF, hgb⟩
    have HG := hid hg; have HF := hid hF; have HGB := hid hgb
    clear hF hgb hg
    go_wp2_with fail
    refine (HW.out _).mono ?_
    rintro e w2 ⟨rfl, rfl⟩
    obtain ⟨v0, hv0⟩ : ∃ u, cs[0]? = some u := ⟨_, Array.getElem?_eq_getElem (by omega)⟩
    obtain ⟨v1, hv1⟩ : ∃ u, cs[1]? = some u := ⟨_, Array.getElem?_eq_getElem (by omega)⟩
    have b1 : w1.cell? ⟨g, 1, none⟩ = some v1 := by rw [blk_cell HG.out]; exact hv1
    have f1 : w1.frozen? ⟨g, 1, none⟩ = false := blk_frozen HG.out 1
    have s1 := blk_set HG.out 1 (.int .u64 ((X * X / 18446744073709551616 : Nat) : Int))
    have b0 : (w1.setCell ⟨g, 1, none⟩ (.int .u64 ((X * X / 18446744073709551616 : Nat) : Int))).cell? ⟨g, 0, none⟩ = some v0 := by rw [blk_cell s1, Array.getElem?_setIfInBounds, if_neg (by omega)]; exact hv0
    have f0 : (w1.setCell ⟨g, 1, none⟩ (.int .u64 ((X * X / 18446744073709551616 : Nat) : Int))).frozen? ⟨g, 0, none⟩ = false := blk_frozen s1 0
    have s0 := blk_set s1 0 (.int .u64 ((X * X % 18446744073709551616 : Nat) : Int))
    have hat : NatAt ((w1.setCell ⟨g, 1, none⟩ (.int .u64 ((X * X / 18446744073709551616 : Nat) : Int))).setCell ⟨g, 0, none⟩ (.int .u64 ((X * X % 18446744073709551616 : Nat) : Int))) (.slice (some ⟨g, 0, none⟩) 2 cap) [X * X % 18446744073709551616, X * X / 18446744073709551616] := by
      refine .inr ⟨g, cap, _, rfl, s0, by simp; exact k1, k2, k3, fun j u hj => ?_⟩
      match j, hj with
      | 0, hj => simp at hj; subst hj; rw [Array.getElem?_setIfInBounds, if_pos rfl, if_pos (by simp; omega)]
      | 1, hj => simp at hj; subst hj; rw [Array.getElem?_setIfInBounds, if_neg (by omega), Array.getElem?_setIfInBounds, if_pos rfl, if_pos (by omega)]
      | j + 2, hj => simp at hj
    have hFw : Fr (fun i => natBlk v = some i) w ((w1.setCell ⟨g, 1, none⟩ (.int .u64 ((X * X / 18446744073709551616 : Nat) : Int))).setCell ⟨g, 0, none⟩ (.int .u64 ((X * X % 18446744073709551616 : Nat) : Int))) := by
      have hgv : g < w.heap.size → natBlk v = some g := fun hlt => HGB.out.resolve_right (Nat.not_le.2 hlt)
      exact Fr.setCell (p := ⟨g, 0, none⟩) (Fr.setCell (p := ⟨g, 1, none⟩) (HF.out.mono (fun _ _ h => h.elim)) hgv _) hgv _
    have HN := hid (natNorm _ _ _ hat)
    have fin : ∀ v' w3, Normed ((w1.setCell ⟨g, 1, none⟩ (.int .u64 ((X * X / 18446744073709551616 : Nat) : Int))).setCell ⟨g, 0, none⟩ (.int .u64 ((X * X % 18446744073709551616 : Nat) : Int))) (.slice (some ⟨g, 0, none⟩) 2 cap) [X * X % 18446744073709551616, X * X / 18446744073709551616] (.returned v') w3 → NatRes w v (X * X) (.returned v') w3 := by
      rintro v' w3 ⟨rfl, u, hu, k1, k2⟩
      cases hu
      rw [HSQ.out] at k1
      exact ⟨_, rfl, k1, hFw, fun k hk => by rw [k2] at hk; cases hk; exact HGB.out⟩
    have FIN := hid fin
    clear fin hFw hat s0 s1 hv0 hv1
    generalize X * X / 18446744073709551616 = a at *
    generalize X * X % 18446744073709551616 = b at *
    go_wp2_with fail
    refine HN.out.mono ?_
    rintro e w3 ⟨hw, v', rfl, k1, k2⟩
    have N := hid (FIN.out v' w3 ⟨hw, v', rfl, k1, k2⟩)
    clear hw k1 k2
    go_wp2_with fail
    go_ret
    exact N.out
  · have HA := alias_no v (.slice (some ⟨gx, 0, none⟩) (limbs X).length capx) zs (limbs X) w hv hvx hne
    have q1 : (((limbs X).length : Int) == 1) = false := beq_eq_false_iff_ne.2 (by omega)
    have q0 : (((limbs X).length : Int) == 0) = false := beq_eq_false_iff_ne.2 (by omega)
    have HM := hid (fun w1 (hF : Fr NoB w w1) => natMake v zs ((limbs X).length + (limbs X).length) w1 (hv.fr hF (fun _ _ h => h)) (by omega) (by omega))
    have HCX := hid hcx; have HT := hid hT; have HLB := hid (limbs_lt X); have HNV := hid (nval_limbs X)
    have HGN := hid hgne; have HA := hid HA
    clear hv hvx hcx hne hT hcap h1 hgne
    generalize limbs X = xs at *
    go_enter Tryz.func216, Tryz.ntmps216
    go_wp2_with fail
    refine HA.out.mono ?_
    rintro e w1 ⟨rfl, hF1⟩
    have HM1 := HM.out w1 hF1
    rw [show ((xs.length + xs.length : Nat) : Int) = 2 * (xs.length : Int) by omega] at HM1
    have HM1 := hid HM1; have HF1 := hid hF1
    clear hF1 HM HA
    go_wp2_with fail
    refine HM1.out.mono ?_
    rintro e w2 ⟨g, cap, cs, rfl, hg, k1, k2, k3, hF2, hgb⟩
    have hF02 : Fr NoB w w2 := HF1.out.trans hF2 (fun _ _ h => h)
    have hT2 : Thr w2 := HT.out.fr hF02 (fun _ _ h => h)
    have t15 := hT2.sq; have t16 := hT2.ks
    have hgxg : gx ≠ g := by
      intro e
      rcases hgb with h | h
      · exact HGN.out g h e
      · have := HF1.out.size; omega
    have HB := hid (basicMul g cap gx capx gx capx cs xs xs w2 hg (by omega) (by omega) (fun j x hj => hF02.cell' (HCX.out j x hj) (fun h => h)) hgxg (fun j x hj => hF02.cell' (HCX.out j x hj) (fun h => h)) hgxg HLB.out HLB.out (by omega) (by omega) hl1 hl1)
    have HF02 := hid hF02
    have HGB : Hid (natBlk v = some g ∨ w.heap.size ≤ g) := hid (hgb.imp (fun h => h) (fun h => Nat.le_trans HF1.out.size h))
    clear hF02 hF2 hgb hg hT2 hgxg
    go_wp2_with fail
    refine HB.out.mono ?_
    rintro e w3 ⟨rfl, hm, hF3⟩
    obtain ⟨L, hat, hnL⟩ := hm.nat k1 k2 k3
    have hFw : Fr (fun i => natBlk v = some i) w w3 := by
      refine Fr.trans (HF02.out.mono (fun _ _ h => h.elim)) hF3 (fun i hi h => ?_)
      subst h
      exact HGB.out.resolve_right (Nat.not_le.2 hi)
    rw [HNV.out] at hnL
    have HN := hid (natNorm _ _ _ hat)
    have fin : ∀ v' w4, Normed w3 (.slice (some ⟨g, 0, none⟩) (xs.length + xs.length) cap) L (.returned v') w4 → NatRes w v (X * X) (.returned v') w4 := by
      rintro v' w4 ⟨rfl, u, hu, j1, j2⟩
      cases hu
      rw [hnL] at j1
      exact ⟨_, rfl, j1, hFw, fun k hk => by rw [j2] at hk; cases hk; exact HGB.out⟩
    have FIN := hid fin
    clear fin hFw hat hnL hm hF3 t15 t16
    go_wp2_with fail
    refine HN.out.mono ?_
    rintro e w4 ⟨hw, v', rfl, j1, j2⟩
    have N := hid (FIN.out v' w4 ⟨hw, v', rfl, j1, j2⟩)
    clear hw j1 j2
    go_wp2_with fail
    go_ret
    exact N.out

set_option maxRecDepth 100000 in
set_option maxHeartbeats 2000000 in
theorem natMul1 (v vx vy stk : Value) (zs : List Nat) (X y : Nat) (w : World) (hv : NatAt w v zs) (hvx : NatAt w vx (limbs X)) (hvy : NatAt w vy [y]) (h0 : X ≠ 0) (hy : y < WB) (hl : (limbs X).length ≤ 900) :
    Calls Tryz.prog 234 #[v, stk, vx, vy] w (NatRes w v (X * y)) := by
  have hl1 := limbs_len_pos h0
  have HM := natMulAddWW v vx zs X y 0 w hv hvx hy WB_pos hl
  rw [Nat.add_zero, show ((0 : Nat) : Int) = 0 from rfl] at HM
  have HM := hid HM
  obtain ⟨A, c, rfl⟩ := hvx.shape
  obtain ⟨gy, capy, rfl, hcy, _⟩ := hvy.cell (by simp)
  have c0 := hcy 0 y rfl
  have q0 : (((limbs X).length : Int) == 0) = false := beq_eq_false_iff_ne.2 (by omega)
  rw [show ([y] : List Nat).length = 1 from rfl]
  clear hv hvx hvy hcy h0 hy
  generalize (limbs X).length = n at *
  go_enter Tryz.func234, Tryz.ntmps234
  go_wp2_with fail
  refine HM.out.mono ?_
  rintro e w1 ⟨v', rfl, k1, k2, k3⟩
  have N := hid (show NatRes w v (X * y) (.returned v') w1 from ⟨v', rfl, k1, k2, k3⟩)
  clear k1 k2 k3
  go_wp2_with fail
  go_ret
  exact N.out
end Go.Proofs.YteokhhepnoelhaaGreatDoor
