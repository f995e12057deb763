/-
  impl.told at a finite decimal.
-/
import Derived.Test.YteokhhepnoelhaaGreatDoorXap
import Derived.Test.YteokhhepnoelhaaGreatDoorXau
import Derived.Test.YteokhhepnoelhaaGreatDoorXam
set_option linter.unusedVariables false
set_option linter.unusedSimpArgs false
namespace Go.Proofs.YteokhhepnoelhaaGreatDoor
open Go.RowKit
def ToldRes (w : World) (neg : Bool) (V : Nat) (e0 : Int) (e : Ending) (w' : World) : Prop :=
 ∃ A n c, e = .returned (.agg #[.int .i64 0, .bool neg, .slice A n c, .int .i64 e0]) ∧ w'.ownsRow w.heap.size 36 1 (.slice A n c) (limbs V).length (u64s (limbs V)) ∧ Fr NoB w w'
theorem ownsRow_shape {w : World} {B n : Nat} {v : Value} {xs : List Value} (h : w.ownsRow B 36 1 v n xs) : ∃ A m c, v = .slice A m c := by
 obtain ⟨_, h | ⟨g', cap', cur', h, _⟩⟩ := h;· exact ⟨_, _, _, h.1⟩
 · exact ⟨_, _, _, h⟩
set_option maxRecDepth 100000 in
set_option maxHeartbeats 2000000 in
theorem told_num (D : Nat) (neg : Bool) (e0 : Int) (v : Value) (V : Nat) (w : World) (hD : DecAt w D 0 neg e0 false v false) (hv : NatAt w v (limbs V)) (hl : (limbs V).length ≤ 900) (he0 : -1000000 ≤ e0) (he1 : e0 ≤ 1000000) :
 Calls Tryz.prog 25 #[.pointer (some ⟨D, 0, none⟩)] w (ToldRes w neg V e0) := by
 obtain ⟨⟨h0, h1, h2, h3, h4, h5⟩, f0, f1, f2, f3, f4, f5⟩ := hD.cells;have hlt := blk_lt hD;have HD := hid hD; have HV := hid hv;clear hD hv;go_enter Tryz.func25, Tryz.ntmps25;go_wp2_with fail;have hF0 : Fr NoB w ((w.alloc (.cells #[.int .i64 0, .bool false, .slice none 0 0, .int .i64 0] 30)).alloc (.cells #[.int .i64 0, .bool neg, .slice none 0 0, .int .i64 0] 30)) := ((Fr.refl _ _).alloc _).alloc _;have hR : ((w.alloc (.cells #[.int .i64 0, .bool false, .slice none 0 0, .int .i64 0] 30)).alloc (.cells #[.int .i64 0, .bool neg, .slice none 0 0, .int .i64 0] 30)).heap[w.heap.size]? = some (.cells #[.int .i64 0, .bool false, .slice none 0 0, .int .i64 0] 30 (0, 0)) := blk_alloc (blk_new w _) _;have hO : ((w.alloc (.cells #[.int .i64 0, .bool false, .slice none 0 0, .int .i64 0] 30)).alloc (.cells #[.int .i64 0, .bool neg, .slice none 0 0, .int .i64 0] 30)).heap[w.heap.size + 1]? = some (.cells #[.int .i64 0, .bool neg, .slice none 0 0, .int .i64 0] 30 (0, 0)) := by
  have := blk_new (w.alloc (.cells #[.int .i64 0, .bool false, .slice none 0 0, .int .i64 0] 30)) (.cells #[.int .i64 0, .bool neg, .slice none 0 0, .int .i64 0] 30 (0, 0));rw [World.size_alloc] at this;exact this
 generalize ((w.alloc (.cells #[.int .i64 0, .bool false, .slice none 0 0, .int .i64 0] 30)).alloc (.cells #[.int .i64 0, .bool neg, .slice none 0 0, .int .i64 0] 30)) = W at *
 have hDW := HD.out.fr hF0 (fun h => h);have hFd : Fr NoB W W.drew := (Fr.refl _ _).drew;have HWD := hid (implWords D 3 _ 72 v (limbs V) W.drew (show BlkAt W.drew D #[.int .i8 0, .bool neg, .int .i32 e0, .bool false, v, .bool false] 72 from hDW) rfl rfl ((HV.out.fr hF0 (fun _ _ h => h)).fr hFd (fun _ _ h => h)) hl (limbs_lt V));have q2 : W.cell? ⟨D, 2, none⟩ = some (.int .i32 e0) := by rw [blk_cell hDW]; rfl
 have o2 : W.cell? ⟨w.heap.size + 1, 2, none⟩ = some (.slice none 0 0) := by rw [blk_cell hO]; rfl
 have o3 : W.cell? ⟨w.heap.size + 1, 3, none⟩ = some (.int .i64 0) := by rw [blk_cell hO]; rfl
 have HF0 := hid hF0; have HR := hid hR; have HO := hid hO;have hsW : w.heap.size + 1 < W.heap.size := blk_lt hO;clear hF0 hR hO hDW hFd h0 h1 h2 h3 h4 h5 f0 f1 f2 f3 f4 f5;go_region_with (first | (go_at_call 38; refine HWD.out.mono ?_; rintro e w2 ⟨v', rfl, hown, hF2⟩; obtain ⟨A, n, c, rfl⟩ := ownsRow_shape hown; have q2' : w2.cell? ⟨D, 2, none⟩ = some (.int .i32 e0) := hF2.cell' (w := W.drew) q2 (fun h => h); have o2' : w2.cell? ⟨w.heap.size + 1, 2, none⟩ = some (.slice none 0 0) := hF2.cell' (w := W.drew) o2 (fun h => h); have o3' : w2.cell? ⟨w.heap.size + 1, 3, none⟩ = some (.int .i64 0) := hF2.cell' (w := W.drew) o3 (fun h => h); have hO2 : w2.heap[w.heap.size + 1]? = some (.cells #[.int .i64 0, .bool neg, .slice none 0 0, .int .i64 0] 30 (0, 0)) := hF2.blk (w := W.drew) HO.out (fun h => h); have u2 : w2.frozen? ⟨w.heap.size + 1, 2, none⟩ = false := blk_frozen hO2 _; have u3 : w2.frozen? ⟨w.heap.size + 1, 3, none⟩ = false := blk_frozen hO2 _; have HO2 := hid hO2; have HF2 := hid hF2; have HOWN := hid hown; clear hO2 hF2 hown));all_goals
  have s2 := blk_set HO2.out 2 (.slice A n c);have s3 := blk_set s2 3 (.int .i64 (IntKind.i64.wrap e0));have hR2 : w2.heap[w.heap.size]? = some (.cells #[.int .i64 0, .bool false, .slice none 0 0, .int .i64 0] 30 (0, 0)) := HF2.out.blk (w := W.drew) HR.out (fun h => h);have hFs : Fr (fun i => i = w.heap.size + 1) w2 ((w2.setCell ⟨w.heap.size + 1, 2, none⟩ (.slice A n c)).setCell ⟨w.heap.size + 1, 3, none⟩ (.int .i64 (IntKind.i64.wrap e0))) :=
   Fr.setCell (S := fun i => i = w.heap.size + 1) (p := ⟨w.heap.size + 1, 3, none⟩) (Fr.setCell (S := fun i => i = w.heap.size + 1) (p := ⟨w.heap.size + 1, 2, none⟩) (Fr.refl _ _) (fun _ => rfl) _) (fun _ => rfl) _
  have hR3 := hFs.blk hR2 (by omega);have hown3 : ((w2.setCell ⟨w.heap.size + 1, 2, none⟩ (.slice A n c)).setCell ⟨w.heap.size + 1, 3, none⟩ (.int .i64 (IntKind.i64.wrap e0))).ownsRow W.heap.size 36 1 (.slice A n c) (limbs V).length (u64s (limbs V)) := by
   obtain ⟨a1, a2 | ⟨g', cap', cur', a2, a3, a4, a5⟩⟩ := HOWN.out;· exact ⟨a1, .inl a2⟩
   · have a3 : W.heap.size ≤ g' := a3;exact ⟨a1, .inr ⟨g', cap', cur', a2, a3, hFs.blk a4 (by omega), a5⟩⟩
  have hF3 : Fr NoB w ((w2.setCell ⟨w.heap.size + 1, 2, none⟩ (.slice A n c)).setCell ⟨w.heap.size + 1, 3, none⟩ (.int .i64 (IntKind.i64.wrap e0))) :=
   (HF0.out.trans ((Fr.refl NoB W).drew.trans HF2.out (fun _ _ h => h)) (fun _ _ h => h)).trans hFs (fun i hi h => by have h : i = w.heap.size + 1 := h; omega)
  have s3' : ((w2.setCell ⟨w.heap.size + 1, 2, none⟩ (.slice A n c)).setCell ⟨w.heap.size + 1, 3, none⟩ (.int .i64 (IntKind.i64.wrap e0))).heap[w.heap.size + 1]? = some (.cells #[.int .i64 0, .bool neg, .slice A n c, .int .i64 e0] 30 (0, 0)) := by
   have := s3;rw [show IntKind.i64.wrap e0 = e0 from IntWalk.i64_in _ (by omega)] at this ⊢;exact this
  clear s2 s3 hR2 hFs q2' o2' o3' u2 u3 HO2 HF2 HOWN q2 o2 o3;generalize ((w2.setCell ⟨w.heap.size + 1, 2, none⟩ (.slice A n c)).setCell ⟨w.heap.size + 1, 3, none⟩ (.int .i64 (IntKind.i64.wrap e0))) = w3 at *
  have o0 := blk_cell s3' 0; have o1 := blk_cell s3' 1; have o2 := blk_cell s3' 2; have o3 := blk_cell s3' 3;have r0 := blk_cell hR3 0; have r1 := blk_cell hR3 1; have r2 := blk_cell hR3 2; have r3 := blk_cell hR3 3;have g0 := blk_frozen hR3 0; have g1 := blk_frozen hR3 1; have g2 := blk_frozen hR3 2; have g3 := blk_frozen hR3 3;simp only [List.getElem?_toArray, List.getElem?_cons_zero, List.getElem?_cons_succ] at o0 o1 o2 o3 r0 r1 r2 r3;have HOWN := hid hown3; have HF3 := hid hF3; have HR3 := hid hR3;clear hown3 hF3 hR3 s3';go_wp2_with fail;refine bodyPost_ret (v := .agg #[.int .i64 0, .bool neg, .slice A n c, .int .i64 e0]) (by simp [results, Tryz.results25, go_sem, r0, r1, r2, r3]) rfl ?_;have fin : ∀ a : World, Fr (fun i => i = w.heap.size) w3 a → ToldRes w neg V e0 (.returned (.agg #[.int .i64 0, .bool neg, .slice A n c, .int .i64 e0])) a := by
   intro a hFe;refine ⟨A, n, c, rfl, ?_, HF3.out.trans hFe (fun i hi h => by omega)⟩;obtain ⟨a1, a2 | ⟨g', cap', cur', a2, a3, a4, a5⟩⟩ := HOWN.out;· exact ⟨a1, .inl a2⟩
   · exact ⟨a1, .inr ⟨g', cap', cur', a2, by omega, hFe.blk a4 (by omega), a5⟩⟩
  exact fin _ (Fr.setCell (S := fun i => i = w.heap.size) (p := ⟨w.heap.size, 3, none⟩) (Fr.setCell (S := fun i => i = w.heap.size) (p := ⟨w.heap.size, 2, none⟩) (Fr.setCell (S := fun i => i = w.heap.size) (p := ⟨w.heap.size, 1, none⟩) (Fr.setCell (S := fun i => i = w.heap.size) (p := ⟨w.heap.size, 0, none⟩) (Fr.refl _ _) (fun _ => rfl) _) (fun _ => rfl) _) (fun _ => rfl) _) (fun _ => rfl) _)
def DigOk (V : Nat) (nd : Int) : Prop := ∀ (D : Nat) (f : Int) (n : Bool) (e0 : Int) (v : Value) (w : World), DecAt w D f n e0 false v false → NatAt w v (limbs V) → Thr w →
 Calls Tryz.prog 88 #[.pointer (some ⟨D, 0, none⟩)] w fun e w' => e = .returned (.int .i64 nd) ∧ Fr NoB w w'
theorem nDigits_is {V k : Nat} (h1 : 10 ^ k ≤ V) (h2 : V < 10 ^ (k + 1)) : Lib.nDigits V = k + 1 := Lib.nDigits_unique k V h1 h2
theorem nDigits_between {V d : Nat} (hd : 1 ≤ d) (h1 : 10 ^ (d - 1) ≤ V) (h2 : V < 10 ^ (d + 1)) : ((Lib.nDigits V : Nat) : Int) = if V < 10 ^ d then (d : Int) else (d : Int) + 1 := by
 obtain ⟨k, rfl⟩ : ∃ k, d = k + 1 := ⟨d - 1, by omega⟩
 by_cases h : V < 10 ^ (k + 1);· rw [if_pos h, nDigits_is (by simpa using h1) h]
 · rw [if_neg h, nDigits_is (by omega) h2];omega
theorem tab_between {V b : Nat} (h0 : V ≠ 0) (hb : blen V = b) : 1 ≤ tabDigits b ∧ 10 ^ (tabDigits b - 1) ≤ V ∧ V < 10 ^ (tabDigits b + 1) ∧ V < 2 ^ b := by
 obtain ⟨h1, h2, h3⟩ := blen_bounds h0;rw [hb] at h1 h2 h3;have hp : (2 : Nat) ^ (b - 1) ≠ 0 := Nat.ne_of_gt (Nat.pow_pos (by omega));have t1 : 10 ^ (tabDigits b - 1) ≤ 2 ^ (b - 1) := pow_le_nDigits _ _ (Nat.le_refl _) hp;have t2 : 2 ^ (b - 1) < 10 ^ tabDigits b := Lib.lt_pow_nDigits _;have t3 : (2 : Nat) ^ b = 2 * 2 ^ (b - 1) := by
  obtain ⟨c, rfl⟩ : ∃ c, b = c + 1 := ⟨b - 1, by omega⟩
  rw [Nat.pow_succ, Nat.add_sub_cancel]; omega
 refine ⟨Lib.nDigits_pos _, by omega, ?_, h2⟩;rw [Nat.pow_succ];omega
theorem digOk_of (V : Nat) (nd : Int) (h : ∀ (D : Nat) (f : Int) (n : Bool) (e0 : Int) (v : Value) (w : World), DecAt w D f n e0 false v false → NatAt w v (limbs V) → Thr w →
 Calls Tryz.prog 132 #[.pointer (some ⟨D, 3, none⟩)] w fun e w' => e = .returned (.int .i64 nd) ∧ Fr NoB w w') : DigOk V nd := by
 intro D f n e0 v w hD hv hT;have hN := hid (h D f n e0 v w hD hv hT);clear hD hv hT h;go_enter Tryz.func88, Tryz.ntmps88;go_wp2_with fail;refine hN.out.mono ?_;rintro e w1 ⟨rfl, hF⟩;have HF := hid hF;clear hF;go_wp2_with fail;go_ret;exact ⟨rfl, HF.out⟩
theorem big_all : (List.range 300).all (fun b => decide (129 ≤ b → 10 ^ (b * 30103 / 100000 - 1) ≤ 2 ^ (b - 1) ∧ 2 ^ b ≤ 10 ^ (b * 30103 / 100000 + 1))) = true := by decide +kernel
theorem numDigits_any (D o : Nat) (ca : Array Value) (ta : TypeId) (v : Value) (V : Nat) (hb : blen V < 300) (w : World) (hD : BlkAt w D ca ta) (a0 : ca[o]? = some (.bool false)) (a1 : ca[o + 1]? = some v) (a2 : ca[o + 2]? = some (.bool false)) (hv : NatAt w v (limbs V)) (hT : Thr w) :
 Calls Tryz.prog 132 #[.pointer (some ⟨D, o, none⟩)] w fun e w' => e = .returned (.int .i64 ((Lib.nDigits V : Nat) : Int)) ∧ Fr NoB w w' := by
 have h1 : w.cell? ⟨D, o + 1, none⟩ = some v := by rw [blk_cell hD]; exact a1
 by_cases h0 : V = 0;· have := numDigits_nought D o v V w h1 hv h0;rw [show Lib.nDigits V = 1 by subst h0; exact Lib.nDigits_small (by omega)];exact this
 · obtain ⟨b, hbb⟩ : ∃ b, blen V = b := ⟨_, rfl⟩
   obtain ⟨t1, t2, t3, t4⟩ := tab_between h0 hbb;have hbp := (blen_bounds h0).2.2;rw [hbb] at hb hbp;by_cases hlt : b < 128
   · obtain ⟨d, hd⟩ : ∃ d, tabDigits b = d := ⟨_, rfl⟩
     have hd40 := (tabDigits_bounds hbp (by omega)).2;rw [hd] at t1 t2 t3 hd40;by_cases hs : tabDigits (b + 1) = d
     · have h := numDigits_same D o v V b d w h1 hv hT hbb hbp hlt hd hs;have e : Lib.nDigits V = d := by
        have l1 : V < 10 ^ d := by
         have : 2 ^ (b + 1 - 1) < 10 ^ tabDigits (b + 1) := Lib.lt_pow_nDigits _;rw [hs, Nat.add_sub_cancel] at this;omega
        obtain ⟨k, rfl⟩ : ∃ k, d = k + 1 := ⟨d - 1, by omega⟩
        exact nDigits_is (by simpa using t2) l1
       rw [e];exact h
     · have h := numDigits_differ D o ca ta v V b d _ w hD a0 a1 a2 hv hT hbb hbp hlt hd rfl (fun h => hs h.symm) h0 (by omega);rw [nDigits_between t1 t2 t3];exact h
   · by_cases h128 : b = 128
     · obtain ⟨d, hd⟩ : ∃ d, tabDigits b = d := ⟨_, rfl⟩
       have hd40 := (tabDigits_bounds hbp (by omega)).2;rw [hd] at t1 t2 t3 hd40;have h := numDigits_128 D o ca ta v V b d w hD a0 a1 a2 hv hT hbb h128 hd h0 (by omega);rw [nDigits_between t1 t2 t3];exact h
     · have h := numDigits_big D o ca ta v V b (b * 30103 / 100000) w hD a0 a1 a2 hv hT hbb (by omega) hb rfl h0;have hq := of_decide_eq_true (List.all_eq_true.1 big_all b (by simpa using hb)) (by omega);have hbl := blen_bounds h0;rw [hbb] at hbl;rw [nDigits_between (d := b * 30103 / 100000) (by omega) (by omega) (by omega)];exact h
theorem digOk_all (V : Nat) (hb : blen V < 300) : DigOk V ((Lib.nDigits V : Nat) : Int) :=
 digOk_of V _ fun D f n e0 v w hD hv hT => numDigits_any D 3 _ _ v V hb w hD rfl rfl rfl hv hT
end Go.Proofs.YteokhhepnoelhaaGreatDoor
