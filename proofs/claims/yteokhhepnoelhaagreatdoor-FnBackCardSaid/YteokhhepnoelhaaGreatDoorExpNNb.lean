/-
  nat.expNN at the base 10, into the base's own row (as expNN_10, line for line behind its first test); at the exponent 1.
-/
import Derived.Test.YteokhhepnoelhaaGreatDoorExpNN
set_option linter.unusedVariables false
set_option linter.unusedSimpArgs false
namespace Go.Proofs.YteokhhepnoelhaaGreatDoor
open Go.RowKit

set_option maxRecDepth 100000 in
set_option maxHeartbeats 2000000 in
theorem expNN_10_self (vx vy : Value) (k : Nat) (w : World) (hx : NatAt w vx [10]) (hy : NatAt w vy [k]) (hT : Thr w) (hk : 2 ≤ k) (hk' : k ≤ 100) :
    Calls Tryz.prog 252 #[vx, .pointer none, vx, vy, .slice none 0 0, .bool false] w (NewRes w (10 ^ k)) := by
  have HS := hid (fun w1 (hF : Fr NoB w w1) => natSet (.slice none 0 0) vx [] [10] w1 (NatAt.nil _) (hx.fr hF (fun _ _ h => h)) (by simp))
  obtain ⟨gx, capx, rfl, hcx, hcapx, hgx, hcapm, _⟩ := hx.cell (by simp)
  have HA1 := hid (alias_yes gx 1 capx 1 capx (by simpa using hcapx) hcapm w)
  clear hcapx hcapm
  obtain ⟨gy, capy, rfl, hcy, _, hgy, _, _⟩ := hy.cell (by simp)
  rw [show ([10] : List Nat).length = 1 from rfl, show ([k] : List Nat).length = 1 from rfl] at *
  have HX := hid hx; have HY := hid hy; have HT := hid hT
  have HCX := hid (hcx 0 10 rfl); have HCY := hid (hcy 0 k rfl)
  have k1 : ((k : Int) == 1) = false := beq_eq_false_iff_ne.2 (by omega)
  have hb2 := blen_ge2 hk
  have hb7 := blen_le7 (show k < 128 by omega)
  obtain ⟨s0, hs0⟩ : ∃ s0, 64 - blen k = s0 := ⟨_, rfl⟩
  have HZ := hid (fun w => nlz_any k (by omega) w)
  rw [hs0] at HZ
  have HS0 := hid hs0
  clear hx hy hT hcx hcy
  go_enter_defers Tryz.func252, Tryz.ntmps252
  go_wp2_with fail
  refine HA1.out.mono ?_
  rintro e w2 ⟨rfl, hF2⟩
  have cx := hF2.cell' HCX.out (fun h => h); have cy := hF2.cell' HCY.out (fun h => h)
  have HF2 := hid hF2
  clear hF2
  go_wp2_with fail
  refine (getStack_any _).mono ?_
  rintro e w3 ⟨rfl, hw3⟩
  have hF3 : Fr NoB w w3 := by rw [hw3]; exact HF2.out.alloc _
  have hstk : w3.heap[w2.heap.size]? = some (.cells #[.pointer none] 260 (0, 0)) := by rw [hw3]; exact blk_new _ _
  have hs2 : w.heap.size ≤ w2.heap.size := HF2.out.size
  have hs3 : w2.heap.size < w3.heap.size := blk_lt hstk
  clear cx cy hw3
  have cx := hF3.cell' HCX.out (fun h => h); have cy := hF3.cell' HCY.out (fun h => h)
  have HS3 := hid (HS.out w3 hF3)
  have HF3 := hid hF3; have HSTK := hid hstk
  clear hF3 hstk
  go_wp2_with fail
  refine HS3.out.mono ?_
  rintro e w4 ⟨z, rfl, hz, hF4, hbz⟩
  have hF34 : Fr NoB w3 w4 := hF4.mono (fun i hi h => by cases h)
  have hF4 : Fr NoB w w4 := HF3.out.trans hF34 (fun _ _ h => h)
  have hbz : ∀ g, natBlk z = some g → w3.heap.size ≤ g := fun g hg => (hbz g hg).resolve_left (by intro h; cases h)
  have cx := hF4.cell' HCX.out (fun h => h); have cy := hF4.cell' HCY.out (fun h => h)
  have HZ4 := hid hz; have HF4 := hid hF4; have HBZ := hid hbz; have HF34 := hid hF34
  clear hz hF4 hbz hF34
  go_wp2_with fail
  refine (HZ.out _).mono ?_
  rintro e w5 ⟨rfl, rfl⟩
  go_wp2_with fail
  have hP0 : PowAt w3 (k / 2 ^ (blen k - 1 - 0)) z (.slice none 0 0) w4 := by
    rw [exp_first hk]
    exact ⟨by rw [limbs_ten]; exact HZ4.out, ⟨[], NatAt.nil _⟩, (fun g h => by cases h), HF34.out, HBZ.out, (fun g h => by cases h)⟩
  have HP0 := hid hP0
  have hv0 : IntKind.u64.wrap ((k : Int) * 2 ^ (s0 + 1)) = (expV k 0 : Int) := by
    rw [u64_wrap]
    unfold expV
    rw [show 65 - blen k + 0 = s0 + 1 by have := HS0.out; omega]
    simp
  have HV0 := hid hv0
  have hbs : (64 : Int) - ((s0 : Int) + 1) = ((blen k : Int) - 1) := by have := HS0.out; omega
  have HBS := hid hbs
  have hss : s0 + blen k = 64 := by have := HS0.out; omega
  clear hP0 hv0 hbs HZ4 HBZ HF34 cx cy
  go_loopw [0, 15, 19, 21] (fun z v zz j wr => ∃ (j0 : Nat) (zv zzv : Value), zv = z ∧ zzv = zz ∧ j = .int .i64 j0 ∧ j0 + 1 ≤ blen k ∧ v = .int .u64 (expV k j0 : Int) ∧ Hid (PowAt w3 (k / 2 ^ (blen k - 1 - j0)) zv zzv wr)) (fun _ _ _ j _ => 100 - (intOf j).toNat)
  case atStart => exact ⟨0, _, _, rfl, rfl, rfl, by omega, by rw [HV0.out], HP0⟩
  case round =>
    obtain ⟨j0, z, zz, rfl, rfl, rfl, hj, rfl, hP⟩ := hrel
    by_cases hlt : j0 + 1 < blen k
    · have hlt' : (j0 : Int) < 64 - ((s0 : Int) + 1) := by omega
      have hq100 : k / 2 ^ (blen k - 1 - j0) ≤ 100 := Nat.le_trans (Nat.div_le_self _ _) hk'
      obtain ⟨p1, ⟨zs, p2⟩, p3, p4, p5, p6⟩ := hP.out
      have hFr : Fr NoB w wr := HF3.out.trans p4 (fun _ _ h => h)
      have hTr : Thr wr := HT.out.fr hFr (fun _ _ h => h)
      have HSQ := hid (natSqr zz z zs (10 ^ (k / 2 ^ (blen k - 1 - j0))) wr p2 p1 hTr p3 (pow_ne _) (Nat.le_trans (pow_len _ hq100) (by omega)) (.pointer (some ⟨w2.heap.size, 0, none⟩)))
      have hbit := expBit k j0 (by omega) hlt
      have hvn : IntKind.u64.wrap ((expV k j0 : Int) * 2) = (expV k (j0 + 1) : Int) := by rw [u64_wrap, ← expV_next]; simp
      have hst := exp_step k (blen k) j0 hlt
      have hvb : expV k j0 < 18446744073709551616 := Nat.mod_lt _ (by omega)
      have hxr := HX.out.fr hFr (fun g hg h => h)
      have HXR := hid hxr; have HFR := hid hFr; have HST := hid hst
      clear p1 p2 p3 p4 p5 p6 hTr hxr hFr hst
      by_cases hb : k / 2 ^ (blen k - 2 - j0) % 2 = 1
      · rw [if_pos hb] at hbit
        have HB := hid hb
        clear hb
        go_wp2_with fail
        refine HSQ.out.mono ?_
        rintro e w6 ⟨z1, rfl, n1, n2, n3⟩
        have hP1 := hP.out.step (q' := 2 * (k / 2 ^ (blen k - 1 - j0))) ⟨z1, rfl, n1, n2, n3⟩ (by rw [← Nat.pow_add]; congr 1; omega)
        have hx6 := HXR.out.fr n2 (fun g hg h => by
          obtain ⟨_, _, _, _, _, p6⟩ := hP.out
          have h1 := p6 g h
          have h2 : g = gx := by cases hg; rfl
          have := HF3.out.size
          omega)
        obtain ⟨p1, ⟨zs', p2⟩, p3, p4, p5, p6⟩ := hP1
        have HM := hid (natMul1 z z1 (.slice (some ⟨gx, 0, none⟩) 1 capx) (.pointer (some ⟨w2.heap.size, 0, none⟩)) zs' (10 ^ (2 * (k / 2 ^ (blen k - 1 - j0)))) 10 w6 p2 p1 hx6 (pow_ne _) (by decide) (Nat.le_trans (pow_len _ (Nat.le_trans (Nat.le_add_right _ _) (by rw [← HST.out]; exact Nat.le_trans (Nat.div_le_self _ _) hk'))) (by omega)))
        have HP1 := hid (show PowAt w3 (2 * (k / 2 ^ (blen k - 1 - j0))) z1 z w6 from ⟨p1, ⟨zs', p2⟩, p3, p4, p5, p6⟩)
        clear p1 p2 p3 p4 p5 p6 n1 n2 n3 hx6
        go_wp2_with fail
        refine HM.out.mono ?_
        rintro e w7 ⟨z2, rfl, n1, n2, n3⟩
        have hP2 := HP1.out.step (q' := k / 2 ^ (blen k - 1 - (j0 + 1))) ⟨z2, rfl, n1, n2, n3⟩ (by rw [HST.out, HB.out, ← Nat.pow_succ])
        have HP2 := hid hP2
        clear n1 n2 n3 hP2 HP1 HM HSQ hbit
        go_wp2_with fail
        go_roundw
        case rel => exact ⟨j0 + 1, _, _, rfl, rfl, by go_num, by omega, rfl, HP2⟩
        case measure => simp [intOf]; omega
      · rw [if_neg hb] at hbit
        have hb0 : k / 2 ^ (blen k - 2 - j0) % 2 = 0 := by omega
        have HB := hid hb0
        clear hb hb0
        go_wp2_with fail
        refine HSQ.out.mono ?_
        rintro e w6 ⟨z1, rfl, n1, n2, n3⟩
        have hP1 := hP.out.step (q' := k / 2 ^ (blen k - 1 - (j0 + 1))) ⟨z1, rfl, n1, n2, n3⟩ (by rw [HST.out, HB.out, ← Nat.pow_add]; congr 1; omega)
        have HP1 := hid hP1
        clear n1 n2 n3 hP1 HSQ
        go_wp2_with fail
        go_roundw
        case rel => exact ⟨j0 + 1, _, _, rfl, rfl, by go_num, by omega, rfl, HP1⟩
        case measure => simp [intOf]; omega
    · have hge : ¬ (j0 : Int) < 64 - ((s0 : Int) + 1) := by omega
      have hj0 : blen k - 1 - j0 = 0 := by omega
      have hPk := hP.out
      rw [hj0, Nat.pow_zero, Nat.div_one] at hPk
      obtain ⟨p1, ⟨zs, p2⟩, p3, p4, p5, p6⟩ := hPk
      have hstk : wr.cell? ⟨w2.heap.size, 0, none⟩ = some (.pointer none) := by
        rw [blk_cell (p4.blk HSTK.out (fun h => h))]; rfl
      have hN : NewRes w (10 ^ k) (.returned z) wr := ⟨z, rfl, p1, HF3.out.trans p4 (fun _ _ h => h), fun g hg => by have := p5 g hg; have := HF3.out.size; omega⟩
      have N := hid hN; have HSK := hid hstk
      have hnorm := hid (natNorm z _ wr p1)
      clear p1 p2 p3 p4 p5 p6 hN hstk hj0 hP
      go_wp2_with fail
      refine wp_loop_rounds 1 ?_
      rw [rounds_succ]
      go_wp2_with fail
      refine hnorm.out.mono ?_
      rintro e w5 ⟨rfl, v', rfl, k1, k2⟩
      have hN2 : NewRes w (10 ^ k) (.returned v') wr := by
        obtain ⟨z', hz', n1, n2, n3⟩ := N.out
        cases hz'
        refine ⟨v', rfl, ?_, n2, fun g hg => n3 g (by rw [← k2]; exact hg)⟩
        rw [normL_limbs _ (limbs_lt _), nval_limbs] at k1
        exact k1
      have N2 := hid hN2
      clear hN2 k1 k2 N
      go_wp2_with fail
      refine leaves_cons (f := 183) (args := #[.pointer (some ⟨w2.heap.size, 0, none⟩)]) (by simp) (by simp [go_sem]) ?_
      refine (free_deferred _ .returning _ HSK.out).mono ?_
      rintro e u' w'' ⟨rfl, rfl, rfl⟩
      refine ⟨_, results_tmp (t := 12) rfl _ _ _, ?_⟩
      exact N2.out

set_option maxRecDepth 100000 in
set_option maxHeartbeats 2000000 in
theorem expNN_one (vx vy : Value) (self : Bool) (w : World) (hx : NatAt w vx [10]) (hy : NatAt w vy [1]) :
    Calls Tryz.prog 252 #[if self then vx else .slice none 0 0, .pointer none, vx, vy, .slice none 0 0, .bool false] w (NewRes w (10 ^ 1)) := by
  have HA1 := hid (fun w1 (hF : Fr NoB w w1) => alias_no (.slice none 0 0) vx [] [10] w1 (NatAt.nil _) (hx.fr hF (fun _ _ h => h)) (fun g h => by cases h))
  have HA2 := hid (fun w1 (hF : Fr NoB w w1) => alias_no (.slice none 0 0) vy [] [1] w1 (NatAt.nil _) (hy.fr hF (fun _ _ h => h)) (fun g h => by cases h))
  have HS := hid (fun w1 (hF : Fr NoB w w1) => natSet (.slice none 0 0) vx [] [10] w1 (NatAt.nil _) (hx.fr hF (fun _ _ h => h)) (by simp))
  obtain ⟨gx, capx, rfl, hcx, hcapx, hgx, hcapm, _⟩ := hx.cell (by simp)
  obtain ⟨gy, capy, rfl, hcy, _, hgy, _, _⟩ := hy.cell (by simp)
  have HAY := hid (alias_yes gx 1 capx 1 capx (by simpa using hcapx) hcapm w)
  rw [show ([10] : List Nat).length = 1 from rfl, show ([1] : List Nat).length = 1 from rfl] at *
  have HCX := hid (hcx 0 10 rfl); have HCY := hid (hcy 0 1 rfl)
  have fin : ∀ (w1 w2 : World) (v' : Value), Fr NoB w w1 → RowRes w1 (.slice none 0 0) [10] (.returned v') w2 → NewRes w (10 ^ 1) (.returned v') w2 := by
    rintro w1 w2 v' hF ⟨v, hv, r1, r2, r3⟩
    cases hv
    exact ⟨_, rfl, by rw [limbs_ten]; exact r1, hF.trans (r2.mono (fun i hi h => by cases h)) (fun _ _ h => h), fun g hg => by
      rcases r3 g hg with h | h
      · cases h
      · have := hF.size; omega⟩
  have FIN := hid fin
  clear hx hy hcx hcy hcapx hcapm fin
  cases self with
  | true =>
    go_enter_defers Tryz.func252, Tryz.ntmps252
    go_wp2_with fail
    refine HAY.out.mono ?_
    rintro e w2 ⟨rfl, hF2⟩
    have cx := hF2.cell' HCX.out (fun h => h); have cy := hF2.cell' HCY.out (fun h => h)
    have HS2 := hid (HS.out w2 hF2)
    have HF2 := hid hF2
    clear hF2
    go_wp2_with fail
    refine HS2.out.mono ?_
    rintro e w4 ⟨v', rfl, r1, r2, r3⟩
    have N := hid (FIN.out w2 w4 v' HF2.out ⟨v', rfl, r1, r2, r3⟩)
    clear r1 r2 r3
    go_wp2_with fail
    refine ⟨_, results_tmp (t := 12) rfl _ _ _, ?_⟩
    exact N.out
  | false =>
    go_enter_defers Tryz.func252, Tryz.ntmps252
    go_wp2_with fail
    refine (HA1.out _ (Fr.refl _ _)).mono ?_
    rintro e w1 ⟨rfl, hF1⟩
    have HF1 := hid hF1
    clear hF1
    go_wp2_with fail
    refine (HA2.out _ HF1.out).mono ?_
    rintro e w2 ⟨rfl, hF2⟩
    have hF2 : Fr NoB w w2 := HF1.out.trans hF2 (fun _ _ h => h)
    have cx := hF2.cell' HCX.out (fun h => h); have cy := hF2.cell' HCY.out (fun h => h)
    have HS2 := hid (HS.out w2 hF2)
    have HF2 := hid hF2
    clear hF2
    go_wp2_with fail
    refine HS2.out.mono ?_
    rintro e w4 ⟨v', rfl, r1, r2, r3⟩
    have N := hid (FIN.out w2 w4 v' HF2.out ⟨v', rfl, r1, r2, r3⟩)
    clear r1 r2 r3
    go_wp2_with fail
    refine ⟨_, results_tmp (t := 12) rfl _ _ _, ?_⟩
    exact N.out

/-- expNN at the base 10, into nil or into the base's own row. -/
theorem expNN_any (vx vy : Value) (self : Bool) (k : Nat) (w : World) (hx : NatAt w vx [10]) (hy : NatAt w vy [k]) (hT : Thr w) (hk : 1 ≤ k) (hk' : k ≤ 100) :
    Calls Tryz.prog 252 #[if self then vx else .slice none 0 0, .pointer none, vx, vy, .slice none 0 0, .bool false] w (NewRes w (10 ^ k)) := by
  by_cases h1 : k = 1
  · subst h1; exact expNN_one vx vy self w hx hy
  · cases self with
    | true => exact expNN_10_self vx vy k w hx hy hT (by omega) hk'
    | false => exact expNN_10 vx vy k w hx hy hT (by omega) hk'
end Go.Proofs.YteokhhepnoelhaaGreatDoor
