/-
  NumDigits where two rows of the table agree.
-/
import Derived.Test.YteokhhepnoelhaaGreatDoorXal
set_option linter.unusedVariables false
set_option linter.unusedSimpArgs false
namespace Go.Proofs.YteokhhepnoelhaaGreatDoor
open Go.RowKit
theorem bigBitLen (D o : Nat) (v : Value) (V : Nat) (w : World) (h1 : w.cell? ⟨D, o + 1, none⟩ = some v) (hv : NatAt w v (limbs V)) :
 Calls Tryz.prog 74 #[.pointer (some ⟨D, o, none⟩)] w fun e w' => e = .returned (.int .i64 (blen V)) ∧ w = w' := by
 have HL := hid (natBitLen v V w hv);obtain ⟨A, c, rfl⟩ := hv.shape;clear hv;generalize (limbs V).length = n at *
 go_enter Tryz.func74, Tryz.ntmps74;go_wp2_with (first | (go_at_call 114; go_in));refine HL.out.mono ?_;rintro e w1 ⟨rfl, rfl⟩;go_wp2_with fail;go_ret;exact ⟨rfl, rfl⟩
set_option maxRecDepth 100000 in
set_option maxHeartbeats 2000000 in
theorem numDigits_same (D o : Nat) (v : Value) (V b d : Nat) (w : World) (h1 : w.cell? ⟨D, o + 1, none⟩ = some v) (hv : NatAt w v (limbs V)) (hT : Thr w) (hb : blen V = b) (hb1 : 1 ≤ b) (hb2 : b < 128) (hd : tabDigits b = d) (ht : tabDigits (b + 1) = d) :
 Calls Tryz.prog 132 #[.pointer (some ⟨D, o, none⟩)] w fun e w' => e = .returned (.int .i64 (d : Int)) ∧ Fr NoB w w' := by
 have HB := bigBitLen D o v V w h1 hv;rw [hb] at HB;have HB := hid HB;have HTB := digitsLookup b w hT hb1 (by omega);unfold TabRes at HTB;rw [hd] at HTB;have HTB := hid HTB;clear hd;have HT := hid hT;have b0 : ((b : Int) == 0) = false := beq_eq_false_iff_ne.2 (by omega);have b1 : decide ((b : Int) < 128) = true := decide_eq_true (by omega);have b2 : (b : Int) ≤ 128 := by omega
 have b3 : IntKind.i64.wrap ((b : Int) + 1) = (b : Int) + 1 := IntWalk.i64_in _ (by omega);have hlt : (b : Int) < 128 := by omega
 clear h1 hv hT hb;go_enter Tryz.func132, Tryz.ntmps132;go_wp2_with fail;refine HB.out.mono ?_;rintro e w1 ⟨rfl, rfl⟩;go_wp2_with fail;refine HTB.out.mono ?_;rintro e w2 ⟨E, v1, v2, rfl, hEl, hE, hn, hF⟩;have hFd : Fr NoB w2 w2.drew := (Fr.refl _ _).drew;have hN := digitsLookup (b + 1) w2.drew ((HT.out.fr hF (fun _ _ h => h)).fr hFd (fun _ _ h => h)) (by omega) (by omega);rw [show ((b + 1 : Nat) : Int) = (b : Int) + 1 by omega] at hN;unfold TabRes at hN;rw [ht] at hN;have HN := hid hN;have e0 : w2.cell? ⟨E, 0, none⟩ = some (.int .i64 (d : Int)) := by rw [blk_cell hE]; rfl
 have e0d : w2.drew.cell? ⟨E, 0, none⟩ = some (.int .i64 (d : Int)) := e0;have HE := hid hE; have HF := hid hF;clear hE hn hF hFd hN ht;go_wp2_with fail;go_region_with (first | (go_at_call 166; refine HN.out.mono ?_; rintro e w3 ⟨E', v1', v2', rfl, hEl', hE', hn', hF'⟩; have k3 : w3.cell? ⟨E', 0, none⟩ = some (.int .i64 (d : Int)) := (by rw [blk_cell hE']; rfl); have k4 : w3.cell? ⟨E, 0, none⟩ = some (.int .i64 (d : Int)) := hF'.cell' e0d (fun h => h); have HF3 := hid (show Fr NoB w w3 from HF.out.drew.trans hF' (fun _ _ h => h)); clear hE' hn' hF'));all_goals
  go_wp2_with fail;go_ret;exact ⟨rfl, HF3.out⟩
def cmpZ (A B : Nat) : Int := if A < B then -1 else if B < A then 1 else 0
theorem nval_split (xs : List Nat) (k x : Nat) (h : xs[k]? = some x) : nval xs = nval (xs.take k) + WB ^ k * (x + WB * nval (xs.drop (k + 1))) := by
 have hl : k < xs.length := (List.getElem?_eq_some_iff.1 h).1;have e : xs = xs.take k ++ xs.drop k := (List.take_append_drop k xs).symm;have e2 := nval_drop xs k x h;have e3 : (xs.take k).length = k := by rw [List.length_take]; omega
 conv => lhs; rw [e]
 rw [nval_append, e3, e2];rfl
theorem nval_take_lt (xs : List Nat) (k : Nat) (h : ∀ x ∈ xs, x < WB) : nval (xs.take k) < WB ^ k := by
 induction k generalizing xs with
 | zero => simp [nval]
 | succ k ih =>
  cases xs with
  | nil => simpa [nval] using Nat.pow_pos (n := k + 1) WB_pos
  | cons y ys =>
   have h1 := ih ys (fun x hx => h x (by simp [hx]));have h2 := h y (by simp);simp only [List.take_succ_cons, nval];have h3 : WB * (nval (ys.take k) + 1) ≤ WB * WB ^ k := Nat.mul_le_mul_left _ h1;rw [Nat.pow_succ, Nat.mul_comm (WB ^ k)];rw [Nat.mul_add, Nat.mul_one] at h3;omega
theorem cmp_lt (xs ys : List Nat) (k x y : Nat) (hx : xs[k]? = some x) (hy : ys[k]? = some y) (hd : xs.drop (k + 1) = ys.drop (k + 1)) (hb : ∀ x ∈ xs, x < WB) (h : x < y) : nval xs < nval ys := by
 rw [nval_split xs k x hx, nval_split ys k y hy, hd];have h1 := nval_take_lt xs k hb;have h2 : WB ^ k * (x + WB * nval (ys.drop (k + 1)) + 1) ≤ WB ^ k * (y + WB * nval (ys.drop (k + 1))) := Nat.mul_le_mul_left _ (by omega);rw [Nat.mul_add (WB ^ k) _ 1, Nat.mul_one] at h2;omega
theorem cmp_eq (xs ys : List Nat) (x : Nat) (hx : xs[0]? = some x) (hy : ys[0]? = some x) (hd : xs.drop 1 = ys.drop 1) : nval xs = nval ys := by
 rw [nval_split xs 0 x hx, nval_split ys 0 x hy, hd]; simp
theorem limbs_len_lt {a b : Nat} (h : (limbs a).length < (limbs b).length) : a < b := by
 rcases Nat.lt_or_ge a b with h1 | h1;· exact h1
 · have := limbs_len_mono a b h1; omega
set_option maxRecDepth 100000 in
set_option maxHeartbeats 2000000 in
theorem natCmp (x y : Value) (A B : Nat) (w : World) (hx : NatAt w x (limbs A)) (hy : NatAt w y (limbs B)) :
 Calls Tryz.prog 176 #[x, y] w fun e w' => e = .returned (.int .i64 (cmpZ A B)) ∧ Fr NoB w w' := by
 by_cases hl : (limbs A).length = (limbs B).length
 · by_cases hA : A = 0
   · have hB : B = 0 := by
      rw [limbs_len_zero hA] at hl;rcases Nat.eq_zero_or_pos B with h | h;· exact h
      · have := limbs_len_pos (n := B) (by omega); omega
     subst hA hB;obtain ⟨Ax, cx, rfl⟩ := hx.shape;obtain ⟨Ay, cy, rfl⟩ := hy.shape;rw [limbs_len_zero rfl];clear hx hy hl;go_enter Tryz.func176, Tryz.ntmps176;go_wp2_with fail;go_ret;exact ⟨rfl, Fr.refl _ _⟩
   · have hne : limbs A ≠ [] := fun h => hA (limbs_nil.1 h)
     have hne' : limbs B ≠ [] := fun h => by rw [h] at hl; exact hne (List.length_eq_zero_iff.1 hl)
     obtain ⟨gx, cx, rfl, hcx, hcx1, hcx2, hcx3, _⟩ := hx.cell hne;obtain ⟨gy, cy, rfl, hcy, hcy1, hcy2, hcy3, _⟩ := hy.cell hne';obtain ⟨xs, hxs⟩ : ∃ xs, limbs A = xs := ⟨_, rfl⟩
     obtain ⟨ys, hys⟩ : ∃ ys, limbs B = ys := ⟨_, rfl⟩
     have hbx := limbs_lt A;have hby := limbs_lt B;have hvx := nval_limbs A;have hvy := nval_limbs B;rw [hxs] at hbx hcx hvx hcx1 hl hne ⊢;rw [hys] at hby hcy hvy hcy1 hl hne' ⊢;have hn0 : xs.length ≠ 0 := fun h => hne (List.length_eq_zero_iff.1 h)
     have HX := hid hcx; have HY := hid hcy; have HBX := hid hbx; have HBY := hid hby; have HVX := hid hvx; have HVY := hid hvy; have HL := hid hl;rw [← hl] at hcy1 ⊢;obtain ⟨n, hn⟩ : ∃ n, xs.length = n := ⟨_, rfl⟩
     have HN := hid hn;rw [hn] at hcx1 hcy1 hn0 ⊢;clear hcx hcy hbx hby hvx hvy hl hx hy hxs hys hne hne' hn hcx2 hcy2 hA;have e1 : ((n : Int) == 0) = false := beq_eq_false_iff_ne.2 (by omega);have e2 : IntKind.i64.wrap ((n : Int) - 1) = (n : Int) - 1 := IntWalk.i64_in _ (by omega);go_enter Tryz.func176, Tryz.ntmps176;go_wp2_with fail;go_loopw [7] (fun i wr => ∃ k : Nat, i = .int .i64 k ∧ k < n ∧ Hid (xs.drop (k + 1) = ys.drop (k + 1)) ∧ Hid (Fr NoB w wr)) (fun i _ => (intOf i).toNat);case atStart => exact ⟨n - 1, congrArg (Value.int .i64) (by omega), by omega, hid (by rw [show n - 1 + 1 = n by omega, List.drop_of_length_le (by have := HN.out; omega), List.drop_of_length_le (by have := HN.out; have := HL.out; omega)]), hid (Fr.refl _ _)⟩
     case round =>
      obtain ⟨k, rfl, hk, hdr, hF⟩ := hrel;obtain ⟨x, hxk⟩ : ∃ x, xs[k]? = some x := ⟨xs[k]'(by have := HN.out; omega), List.getElem?_eq_getElem _⟩
      obtain ⟨y, hyk⟩ : ∃ y, ys[k]? = some y := ⟨ys[k]'(by have := HN.out; have := HL.out; omega), List.getElem?_eq_getElem _⟩
      have kx : wr.cell? ⟨gx, k, none⟩ = some (.int .u64 (x : Int)) := hF.out.cell' (HX.out k x hxk) (fun h => h);have ky : wr.cell? ⟨gy, k, none⟩ = some (.int .u64 (y : Int)) := hF.out.cell' (HY.out k y hyk) (fun h => h);have cl : (k : Int) < (n : Int) := by omega
      have u1 : ∀ z : Nat, z < WB → True := fun _ _ => trivial
      have RES : Hid ((x < y → cmpZ A B = -1) ∧ (y < x → cmpZ A B = 1) ∧ (k = 0 → x = y → cmpZ A B = 0)) := hid (by
       refine ⟨fun h => ?_, fun h => ?_, fun h0 h => ?_⟩;· have := cmp_lt xs ys k x y hxk hyk hdr.out HBX.out h;rw [HVX.out, HVY.out] at this;unfold cmpZ; rw [if_pos this]
       · have := cmp_lt ys xs k y x hyk hxk hdr.out.symm HBY.out h;rw [HVX.out, HVY.out] at this;unfold cmpZ; rw [if_neg (by omega), if_pos this]
       · subst h0 h;have := cmp_eq xs ys x hxk hyk hdr.out;rw [HVX.out, HVY.out] at this;unfold cmpZ; rw [if_neg (by omega), if_neg (by omega)])
      have NXT : Hid (x = y → k ≠ 0 → xs.drop (k - 1 + 1) = ys.drop (k - 1 + 1)) := hid (fun h h0 => by
       rw [show k - 1 + 1 = k by omega, nval_drop xs k x hxk, nval_drop ys k y hyk, hdr.out, h])
      have HF := hF;clear hxk hyk hdr hF;rcases Nat.lt_trichotomy x y with h | h | h
      · have g1 : (x : Int) < (y : Int) := by omega
        have g2 : ((x : Int) == (y : Int)) = false := beq_eq_false_iff_ne.2 (by omega);have g3 : ¬ (x : Int) = (y : Int) := by omega
        have R := hid (RES.out.1 h);clear RES NXT h;by_cases h0 : k = 0;· subst h0;go_wp2_with fail;go_quiet (fail);go_wp2_with fail;go_quiet (fail);go_wp2_with fail;go_ret;exact ⟨by rw [R.out]; rfl, (HF.out.drewN _).drewN _⟩
        · have h1 : decide (0 < k) = true := decide_eq_true (by omega);have h2 : (0 : Int) < (k : Int) := by omega
          go_wp2_with fail;go_quiet (fail);go_wp2_with fail;go_quiet (fail);go_wp2_with fail;go_ret;exact ⟨by rw [R.out]; rfl, (HF.out.drewN _).drewN _⟩
      · subst h;by_cases h0 : k = 0
        · have R := hid (RES.out.2.2 h0 rfl);clear RES NXT;subst h0;have g1 : ¬ (x : Int) < (x : Int) := by omega
          go_wp2_with fail;go_quiet (fail);go_wp2_with fail;go_quiet (fail);go_wp2_with fail;go_quiet (fail);go_wp2_with fail;go_ret;exact ⟨by rw [R.out]; rfl, ((HF.out.drewN _).drewN _).drewN _⟩
        · have h1 : decide (0 < k) = true := decide_eq_true (by omega);have h2 : (0 : Int) < (k : Int) := by omega
          have nx := hid (NXT.out rfl h0);clear RES NXT;go_wp2_with fail;go_quiet (fail);go_wp2_with fail;exact ⟨⟨k - 1, congrArg (Value.int .i64) (by omega), by omega, nx, hid (HF.out.drewN _)⟩, by simp [intOf]; omega⟩
      · have g1 : ((x : Int) < (y : Int)) = False := eq_false (by omega);have g1' : ((y : Int) < (x : Int)) = True := eq_true (by omega);have g2 : ((x : Int) == (y : Int)) = false := beq_eq_false_iff_ne.2 (by omega);have R := hid (RES.out.2.1 h);clear RES NXT h;by_cases h0 : k = 0
        · subst h0;go_wp2_with fail;go_quiet (fail);go_wp2_with fail;go_quiet (fail);go_wp2_with fail;go_quiet (fail);go_wp2_with fail;go_ret;exact ⟨by rw [R.out]; rfl, ((HF.out.drewN _).drewN _).drewN _⟩
        · have h1 : decide (0 < k) = true := decide_eq_true (by omega);have h2 : (0 : Int) < (k : Int) := by omega
          go_wp2_with fail;go_quiet (fail);go_wp2_with fail;go_quiet (fail);go_wp2_with fail;go_quiet (fail);go_wp2_with fail;go_ret;exact ⟨by rw [R.out]; rfl, ((HF.out.drewN _).drewN _).drewN _⟩
 · have hne : ¬ ((limbs A).length : Int) = ((limbs B).length : Int) := by omega
   obtain ⟨Ax, cx, rfl⟩ := hx.shape;obtain ⟨Ay, cy, rfl⟩ := hy.shape;have hc : cmpZ A B = if (limbs A).length < (limbs B).length then -1 else 1 := by
    unfold cmpZ;split
    · rename_i h; have := limbs_len_lt (a := B) (b := A); have : ¬ (limbs B).length < (limbs A).length := fun h' => by have := this h'; omega
      rw [if_pos (by omega)]
    · rename_i h;have h2 : ¬ (limbs A).length < (limbs B).length := fun h' => h (limbs_len_lt h')
      rw [if_neg h2, if_pos (limbs_len_lt (by omega))]
   rw [hc];clear hx hy hc;generalize (limbs A).length = m at *
   generalize (limbs B).length = n at *
   by_cases h : m < n
   · have h' : (m : Int) < (n : Int) := by omega
     rw [if_pos h];clear h;go_enter Tryz.func176, Tryz.ntmps176;go_wp2_with fail;go_ret;exact ⟨rfl, Fr.refl _ _⟩
   · have h' : ¬ (m : Int) < (n : Int) := by omega
     have h'' : (n : Int) < (m : Int) := by omega
     rw [if_neg h];clear h;go_enter Tryz.func176, Tryz.ntmps176;go_wp2_with fail;go_ret;exact ⟨rfl, Fr.refl _ _⟩
end Go.Proofs.YteokhhepnoelhaaGreatDoor
