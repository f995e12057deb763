/-
  A text that is a finite number is read exactly, with its figures and its exponent: the tied card of laws.FnParse, for every text. The listed package variables hold what the program's text lays (the given tie).
-/
import Derived.Test.YteokhhepnoelhaaGreatDoorParseMid
import Derived.Test.YteokhhepnoelhaaGreatDoorAlias
import Derived.Test.YteokhhepnoelhaaGreatDoorPtr
import Derived.Test.YteokhhepnoelhaaGreatDoorSpecReadN
import Derived.Test.YteokhhepnoelhaaGreatDoorSpecReadM
import Derived.Test.YteokhhepnoelhaaGreatDoorSpecReadP
import Derived.ProofKit
import Derived.Lib.LaidU8
import Derived.KernelRfl
import Derived.Test.YteokhhepnoelhaaGreatDoorRows
import Derived.OpenVars
import Derived.Test.YteokhhepnoelhaaGreatDoorSqr
import Derived.PinnedBridge
import Derived.Lib.LaidCase
import Derived.Stop.LaidErr
import Derived.Lay
import Derived.MakeChecks
import Derived.ChangeMaps5
import Derived.JoinedOf
import Derived.Test.YteokhhepnoelhaaGreatDoorCards
import Derived.Test.YteokhhepnoelhaaGreatDoorTie
import Derived.SevenTiedAt

set_option linter.unusedVariables false
set_option linter.unusedSimpArgs false
namespace Go.Proofs.YteokhhepnoelhaaGreatDoor
open Go.RowKit

def cmpZ (A B : Nat) : Int := if A < B then -1 else if B < A then 1 else 0

theorem nval_split (xs : List Nat) (k x : Nat) (h : xs[k]? = some x) : nval xs = nval (xs.take k) + WB ^ k * (x + WB * nval (xs.drop (k + 1))) := by
  have hl : k < xs.length := (List.getElem?_eq_some_iff.1 h).1
  have e : xs = xs.take k ++ xs.drop k := (List.take_append_drop k xs).symm
  have e2 := nval_drop xs k x h
  have e3 : (xs.take k).length = k := by rw [List.length_take]; omega
  conv => lhs; rw [e]
  rw [nval_append, e3, e2]
  rfl
theorem nval_take_lt (xs : List Nat) (k : Nat) (h : ∀ x ∈ xs, x < WB) : nval (xs.take k) < WB ^ k := by
  induction k generalizing xs with
  | zero => simp [nval]
  | succ k ih =>
    cases xs with
    | nil => simpa [nval] using Nat.pow_pos (n := k + 1) WB_pos
    | cons y ys =>
      have h1 := ih ys (fun x hx => h x (by simp [hx]))
      have h2 := h y (by simp)
      simp only [List.take_succ_cons, nval]
      have h3 : WB * (nval (ys.take k) + 1) ≤ WB * WB ^ k := Nat.mul_le_mul_left _ h1
      rw [Nat.pow_succ, Nat.mul_comm (WB ^ k)]
      rw [Nat.mul_add, Nat.mul_one] at h3
      omega
theorem cmp_lt (xs ys : List Nat) (k x y : Nat) (hx : xs[k]? = some x) (hy : ys[k]? = some y) (hd : xs.drop (k + 1) = ys.drop (k + 1)) (hb : ∀ x ∈ xs, x < WB) (h : x < y) : nval xs < nval ys := by
  rw [nval_split xs k x hx, nval_split ys k y hy, hd]
  have h1 := nval_take_lt xs k hb
  have h2 : WB ^ k * (x + WB * nval (ys.drop (k + 1)) + 1) ≤ WB ^ k * (y + WB * nval (ys.drop (k + 1))) := Nat.mul_le_mul_left _ (by omega)
  rw [Nat.mul_add (WB ^ k) _ 1, Nat.mul_one] at h2
  omega
theorem cmp_eq (xs ys : List Nat) (x : Nat) (hx : xs[0]? = some x) (hy : ys[0]? = some x) (hd : xs.drop 1 = ys.drop 1) : nval xs = nval ys := by
  rw [nval_split xs 0 x hx, nval_split ys 0 x hy, hd]; simp

theorem limbs_len_lt {a b : Nat} (h : (limbs a).length < (limbs b).length) : a < b := by
  rcases Nat.lt_or_ge a b with h1 | h1
  · exact h1
  · have := limbs_len_mono a b h1; omega

set_option maxRecDepth 100000 in
set_option maxHeartbeats 2000000 in
theorem natCmp (x y : Value) (A B : Nat) (w : World) (hx : NatAt w x (limbs A)) (hy : NatAt w y (limbs B)) :
    Calls Tryz.prog 176 #[x, y] w fun e w' => e = .returned (.int .i64 (cmpZ A B)) ∧ Fr NoB w w' := by
  by_cases hl : (limbs A).length = (limbs B).length
  · by_cases hA : A = 0
    · have hB : B = 0 := by
        rw [limbs_len_zero hA] at hl
        rcases Nat.eq_zero_or_pos B with h | h
        · exact h
        · have := limbs_len_pos (n := B) (by omega); omega
      subst hA hB
      obtain ⟨Ax, cx, rfl⟩ := hx.shape
      obtain ⟨Ay, cy, rfl⟩ := hy.shape
      rw [limbs_len_zero rfl]
      clear hx hy hl
      go_enter Tryz.func176, Tryz.ntmps176
      go_wp2_with fail
      go_ret
      exact ⟨rfl, Fr.refl _ _⟩
    · have hne : limbs A ≠ [] := fun h => hA (limbs_nil.1 h)
      have hne' : limbs B ≠ [] := fun h => by rw [h] at hl; exact hne (List.length_eq_zero_iff.1 hl)
      obtain ⟨gx, cx, rfl, hcx, hcx1, hcx2, hcx3, _⟩ := hx.cell hne
      obtain ⟨gy, cy, rfl, hcy, hcy1, hcy2, hcy3, _⟩ := hy.cell hne'
      obtain ⟨xs, hxs⟩ : ∃ xs, limbs A = xs := ⟨_, rfl⟩
      obtain ⟨ys, hys⟩ : ∃ ys, limbs B = ys := ⟨_, rfl⟩
      have hbx := limbs_lt A
      have hby := limbs_lt B
      have hvx := nval_limbs A
      have hvy := nval_limbs B
      rw [hxs] at hbx hcx hvx hcx1 hl hne ⊢
      rw [hys] at hby hcy hvy hcy1 hl hne' ⊢
      have hn0 : xs.length ≠ 0 := fun h => hne (List.length_eq_zero_iff.1 h)
      have HX := hid hcx; have HY := hid hcy; have HBX := hid hbx; have HBY := hid hby; have HVX := hid hvx; have HVY := hid hvy; have HL := hid hl
      rw [← hl] at hcy1 ⊢
      obtain ⟨n, hn⟩ : ∃ n, xs.length = n := ⟨_, rfl⟩
      have HN := hid hn
      rw [hn] at hcx1 hcy1 hn0 ⊢
      clear hcx hcy hbx hby hvx hvy hl hx hy hxs hys hne hne' hn hcx2 hcy2 hA
      have e1 : ((n : Int) == 0) = false := beq_eq_false_iff_ne.2 (by omega)
      have e2 : IntKind.i64.wrap ((n : Int) - 1) = (n : Int) - 1 := IntWalk.i64_in _ (by omega)
      go_enter Tryz.func176, Tryz.ntmps176
      go_wp2_with fail
      go_loopw [7] (fun i wr => ∃ k : Nat, i = .int .i64 k ∧ k < n ∧ Hid (xs.drop (k + 1) = ys.drop (k + 1)) ∧ Hid (Fr NoB w wr)) (fun i _ => (intOf i).toNat)
      case atStart => exact ⟨n - 1, congrArg (Value.int .i64) (by omega), by omega, hid (by rw [show n - 1 + 1 = n by omega, List.drop_of_length_le (by have := HN.out; omega), List.drop_of_length_le (by have := HN.out; have := HL.out; omega)]), hid (Fr.refl _ _)⟩
      case round =>
        obtain ⟨k, rfl, hk, hdr, hF⟩ := hrel
        obtain ⟨x, hxk⟩ : ∃ x, xs[k]? = some x := ⟨xs[k]'(by have := HN.out; omega), List.getElem?_eq_getElem _⟩
        obtain ⟨y, hyk⟩ : ∃ y, ys[k]? = some y := ⟨ys[k]'(by have := HN.out; have := HL.out; omega), List.getElem?_eq_getElem _⟩
        have kx : wr.cell? ⟨gx, k, none⟩ = some (.int .u64 (x : Int)) := hF.out.cell' (HX.out k x hxk) (fun h => h)
        have ky : wr.cell? ⟨gy, k, none⟩ = some (.int .u64 (y : Int)) := hF.out.cell' (HY.out k y hyk) (fun h => h)
        have cl : (k : Int) < (n : Int) := by omega
        have u1 : ∀ z : Nat, z < WB → True := fun _ _ => trivial
        have RES : Hid ((x < y → cmpZ A B = -1) ∧ (y < x → cmpZ A B = 1) ∧ (k = 0 → x = y → cmpZ A B = 0)) := hid (by
          refine ⟨fun h => ?_, fun h => ?_, fun h0 h => ?_⟩
          · have := cmp_lt xs ys k x y hxk hyk hdr.out HBX.out h
            rw [HVX.out, HVY.out] at this
            unfold cmpZ; rw [if_pos this]
          · have := cmp_lt ys xs k y x hyk hxk hdr.out.symm HBY.out h
            rw [HVX.out, HVY.out] at this
            unfold cmpZ; rw [if_neg (by omega), if_pos this]
          · subst h0 h
            have := cmp_eq xs ys x hxk hyk hdr.out
            rw [HVX.out, HVY.out] at this
            unfold cmpZ; rw [if_neg (by omega), if_neg (by omega)])
        have NXT : Hid (x = y → k ≠ 0 → xs.drop (k - 1 + 1) = ys.drop (k - 1 + 1)) := hid (fun h h0 => by
          rw [show k - 1 + 1 = k by omega, nval_drop xs k x hxk, nval_drop ys k y hyk, hdr.out, h])
        have HF := hF
        clear hxk hyk hdr hF
        rcases Nat.lt_trichotomy x y with h | h | h
        · have g1 : (x : Int) < (y : Int) := by omega
          have g2 : ((x : Int) == (y : Int)) = false := beq_eq_false_iff_ne.2 (by omega)
          have g3 : ¬ (x : Int) = (y : Int) := by omega
          have R := hid (RES.out.1 h)
          clear RES NXT h
          by_cases h0 : k = 0
          · subst h0
            go_wp2_with fail
            go_quiet (fail)
            go_wp2_with fail
            go_quiet (fail)
            go_wp2_with fail
            go_ret
            exact ⟨by rw [R.out]; rfl, (HF.out.drewN _).drewN _⟩
          · have h1 : decide (0 < k) = true := decide_eq_true (by omega)
            have h2 : (0 : Int) < (k : Int) := by omega
            go_wp2_with fail
            go_quiet (fail)
            go_wp2_with fail
            go_quiet (fail)
            go_wp2_with fail
            go_ret
            exact ⟨by rw [R.out]; rfl, (HF.out.drewN _).drewN _⟩
        · subst h
          by_cases h0 : k = 0
          · have R := hid (RES.out.2.2 h0 rfl)
            clear RES NXT
            subst h0
            have g1 : ¬ (x : Int) < (x : Int) := by omega
            go_wp2_with fail
            go_quiet (fail)
            go_wp2_with fail
            go_quiet (fail)
            go_wp2_with fail
            go_quiet (fail)
            go_wp2_with fail
            go_ret
            exact ⟨by rw [R.out]; rfl, ((HF.out.drewN _).drewN _).drewN _⟩
          · have h1 : decide (0 < k) = true := decide_eq_true (by omega)
            have h2 : (0 : Int) < (k : Int) := by omega
            have nx := hid (NXT.out rfl h0)
            clear RES NXT
            go_wp2_with fail
            go_quiet (fail)
            go_wp2_with fail
            exact ⟨⟨k - 1, congrArg (Value.int .i64) (by omega), by omega, nx, hid (HF.out.drewN _)⟩, by simp [intOf]; omega⟩
        · have g1 : ((x : Int) < (y : Int)) = False := eq_false (by omega)
          have g1' : ((y : Int) < (x : Int)) = True := eq_true (by omega)
          have g2 : ((x : Int) == (y : Int)) = false := beq_eq_false_iff_ne.2 (by omega)
          have R := hid (RES.out.2.1 h)
          clear RES NXT h
          by_cases h0 : k = 0
          · subst h0
            go_wp2_with fail
            go_quiet (fail)
            go_wp2_with fail
            go_quiet (fail)
            go_wp2_with fail
            go_quiet (fail)
            go_wp2_with fail
            go_ret
            exact ⟨by rw [R.out]; rfl, ((HF.out.drewN _).drewN _).drewN _⟩
          · have h1 : decide (0 < k) = true := decide_eq_true (by omega)
            have h2 : (0 : Int) < (k : Int) := by omega
            go_wp2_with fail
            go_quiet (fail)
            go_wp2_with fail
            go_quiet (fail)
            go_wp2_with fail
            go_quiet (fail)
            go_wp2_with fail
            go_ret
            exact ⟨by rw [R.out]; rfl, ((HF.out.drewN _).drewN _).drewN _⟩
  · have hne : ¬ ((limbs A).length : Int) = ((limbs B).length : Int) := by omega
    obtain ⟨Ax, cx, rfl⟩ := hx.shape
    obtain ⟨Ay, cy, rfl⟩ := hy.shape
    have hc : cmpZ A B = if (limbs A).length < (limbs B).length then -1 else 1 := by
      unfold cmpZ
      split
      · rename_i h; have := limbs_len_lt (a := B) (b := A); have : ¬ (limbs B).length < (limbs A).length := fun h' => by have := this h'; omega
        rw [if_pos (by omega)]
      · rename_i h
        have h2 : ¬ (limbs A).length < (limbs B).length := fun h' => h (limbs_len_lt h')
        rw [if_neg h2, if_pos (limbs_len_lt (by omega))]
    rw [hc]
    clear hx hy hc
    generalize (limbs A).length = m at *
    generalize (limbs B).length = n at *
    by_cases h : m < n
    · have h' : (m : Int) < (n : Int) := by omega
      rw [if_pos h]
      clear h
      go_enter Tryz.func176, Tryz.ntmps176
      go_wp2_with fail
      go_ret
      exact ⟨rfl, Fr.refl _ _⟩
    · have h' : ¬ (m : Int) < (n : Int) := by omega
      have h'' : (n : Int) < (m : Int) := by omega
      rw [if_neg h]
      clear h
      go_enter Tryz.func176, Tryz.ntmps176
      go_wp2_with fail
      go_ret
      exact ⟨rfl, Fr.refl _ _⟩
end Go.Proofs.YteokhhepnoelhaaGreatDoor

set_option linter.unusedVariables false
set_option linter.unusedSimpArgs false
namespace Go.Proofs.YteokhhepnoelhaaGreatDoor
open Go.RowKit

theorem eql102_other {a b : Addr} {ca cb : Array Value} {ta tb : TypeId} (w : World) (hne : a ≠ b) (ha : w.heap[a.block]? = some (.cells ca ta (0, 0))) (hb : w.heap[b.block]? = some (.cells cb tb (0, 0))) :
    (binOp .eql 102 (.pointer (some a)) (.pointer (some b))).run Tryz.prog w = .ok (.bool false) w := by
  obtain ⟨j, hj, hz⟩ := info68
  exact run_eql_ptr_apart w Tryz.underlying102 hj hz hne ha hb

set_option maxRecDepth 100000 in
set_option maxHeartbeats 2000000 in
theorem intCmp (D o E p A B : Nat) (ca cb : Array Value) (ta tb : TypeId) (v u : Value) (w : World) (hDE : D ≠ E) (hD : BlkAt w D ca ta) (hE : BlkAt w E cb tb) (a0 : ca[o]? = some (.bool false)) (a1 : ca[o + 1]? = some v) (b0 : cb[p]? = some (.bool false)) (b1 : cb[p + 1]? = some u)
    (hv : NatAt w v (limbs A)) (hu : NatAt w u (limbs B)) :
    Calls Tryz.prog 172 #[.pointer (some ⟨D, o, none⟩), .pointer (some ⟨E, p, none⟩)] w fun e w' => e = .returned (.int .i64 (cmpZ A B)) ∧ Fr NoB w w' := by
  have hq := fun w (h : BlkAt w D ca ta) (h' : BlkAt w E cb tb) => eql102_other (a := ⟨D, o, none⟩) (b := ⟨E, p, none⟩) w (fun e => hDE (congrArg Addr.block e)) h h'
  have hq0 := hq w hD hE
  have k0 : w.cell? ⟨D, o, none⟩ = some (.bool false) := by rw [blk_cell hD]; exact a0
  have k1 : w.cell? ⟨D, o + 1, none⟩ = some v := by rw [blk_cell hD]; exact a1
  have m0 : w.cell? ⟨E, p, none⟩ = some (.bool false) := by rw [blk_cell hE]; exact b0
  have m1 : w.cell? ⟨E, p + 1, none⟩ = some u := by rw [blk_cell hE]; exact b1
  have HC := hid (fun (wx : World) (h : Fr NoB w wx) => natCmp v u A B wx (hv.fr h (fun _ _ h => h)) (hu.fr h (fun _ _ h => h)))
  have HD := hid hD
  obtain ⟨Av, cv, rfl⟩ := hv.shape
  obtain ⟨Au, cu, rfl⟩ := hu.shape
  clear hq hD hE hv hu a0 a1 b0 b1 hDE
  go_enter Tryz.func172, Tryz.ntmps172
  go_wp2_with fail
  go_quiet (fail)
  go_wp2_with fail
  have HN := hid (HC.out (w.drewN nq).drew ((Fr.refl NoB w).drewN nq).drew)
  have HFd := hid ((Fr.refl NoB w).drewN nq).drew
  have HK := hid k0
  clear HC HD hq0
  go_region_with (first | (go_at_call 176; refine HN.out.mono ?_; rintro e w3 ⟨rfl, hF3⟩; have HF3 := hid (HFd.out.trans hF3 (fun _ _ h => h)); have c0 := HF3.out.cell' HK.out (fun h => h); clear hF3))
  all_goals
    go_wp2_with fail
    go_ret
    exact ⟨rfl, HF3.out⟩

set_option maxRecDepth 100000 in
set_option maxHeartbeats 2000000 in
theorem bigCmp (D o E p A B : Nat) (ca cb : Array Value) (ta tb : TypeId) (v u : Value) (w : World) (hDE : D ≠ E) (hD : BlkAt w D ca ta) (hE : BlkAt w E cb tb) (a0 : ca[o]? = some (.bool false)) (a1 : ca[o + 1]? = some v) (a2 : ca[o + 2]? = some (.bool false))
    (b0 : cb[p]? = some (.bool false)) (b1 : cb[p + 1]? = some u) (b2 : cb[p + 2]? = some (.bool false)) (hv : NatAt w v (limbs A)) (hu : NatAt w u (limbs B)) :
    Calls Tryz.prog 142 #[.pointer (some ⟨D, o, none⟩), .pointer (some ⟨E, p, none⟩)] w fun e w' => e = .returned (.int .i64 (cmpZ A B)) ∧ Fr NoB w w' := by
  have k2 : w.cell? ⟨D, o + 2, none⟩ = some (.bool false) := by rw [blk_cell hD]; exact a2
  have m2 : w.cell? ⟨E, p + 2, none⟩ = some (.bool false) := by rw [blk_cell hE]; exact b2
  have HC := hid (fun (wx : World) (h : Fr NoB w wx) => intCmp D o E p A B ca cb ta tb v u wx hDE (h.blk hD (fun h => h)) (h.blk hE (fun h => h)) a0 a1 b0 b1 (hv.fr h (fun _ _ h => h)) (hu.fr h (fun _ _ h => h)))
  clear hD hE hv hu a0 a1 b0 b1 hDE a2 b2
  go_enter Tryz.func142, Tryz.ntmps142
  go_wp2_with fail
  go_quiet (fail)
  go_wp2_with fail
  have HN := hid (HC.out (w.drewN nq).drew ((Fr.refl NoB w).drewN nq).drew)
  have HFd := hid ((Fr.refl NoB w).drewN nq).drew
  clear HC
  go_region_with (first | (go_at_call 172; refine HN.out.mono ?_; rintro e w3 ⟨rfl, hF3⟩; have HF3 := hid (HFd.out.trans hF3 (fun _ _ h => h)); clear hF3))
  all_goals
    go_wp2_with fail
    go_ret
    exact ⟨rfl, HF3.out⟩
end Go.Proofs.YteokhhepnoelhaaGreatDoor

set_option linter.unusedVariables false
set_option linter.unusedSimpArgs false
namespace Go.Proofs.YteokhhepnoelhaaGreatDoor
open Go.RowKit

/-- The digits of V, the row of the table being d. -/
def ndOf (V d : Nat) : Int := if V < 10 ^ d then (d : Int) else (d : Int) + 1
def NdRes (w : World) (V d : Nat) (e : Ending) (w' : World) : Prop := e = .returned (.int .i64 (ndOf V d)) ∧ Fr NoB w w'
theorem cmpZ_lt {V M : Nat} (h : V < M) : cmpZ V M = -1 := by unfold cmpZ; rw [if_pos h]
theorem cmpZ_ge {V M : Nat} (h : ¬ V < M) : cmpZ V M = 0 ∨ cmpZ V M = 1 := by unfold cmpZ; rw [if_neg h]; split <;> simp

set_option maxRecDepth 100000 in
set_option maxHeartbeats 2000000 in
theorem numDigits_differ (D o : Nat) (ca : Array Value) (ta : TypeId) (v : Value) (V b d d' : Nat) (w : World) (hD : BlkAt w D ca ta) (a0 : ca[o]? = some (.bool false)) (a1 : ca[o + 1]? = some v) (a2 : ca[o + 2]? = some (.bool false)) (hv : NatAt w v (limbs V)) (hT : Thr w) (hb : blen V = b) (hb1 : 1 ≤ b) (hb2 : b < 128) (hd : tabDigits b = d) (ht : tabDigits (b + 1) = d') (hdd : d ≠ d') (hV : V ≠ 0) (hdz : d ≤ 100) :
    Calls Tryz.prog 132 #[.pointer (some ⟨D, o, none⟩)] w (NdRes w V d) := by
  have h1 : w.cell? ⟨D, o + 1, none⟩ = some v := by rw [blk_cell hD]; exact a1
  have HB := bigBitLen D o v V w h1 hv
  rw [hb] at HB
  have HB := hid HB
  have HTB := digitsLookup b w hT hb1 (by omega)
  unfold TabRes at HTB
  rw [hd] at HTB
  have HTB := hid HTB
  clear hd
  have HT := hid hT
  have b0 : ((b : Int) == 0) = false := beq_eq_false_iff_ne.2 (by omega)
  have b1 : decide ((b : Int) < 128) = true := decide_eq_true (by omega)
  have b2 : (b : Int) ≤ 128 := by omega
  have b3 : IntKind.i64.wrap ((b : Int) + 1) = (b : Int) + 1 := IntWalk.i64_in _ (by omega)
  have hlt : (b : Int) < 128 := by omega
  have B4 := hid (show ((d' : Int) == (d : Int)) = false from beq_eq_false_iff_ne.2 (by omega))
  have HD := hid hD; have HV := hid hv; have HA0 := hid a0; have HA1 := hid a1; have HA2 := hid a2
  have HVZ := hid hV; have HDD := hid hdd; have HDZ := hid hdz
  clear h1 hv hT hb hD a0 a1 a2 hV hdd hdz
  go_enter Tryz.func132, Tryz.ntmps132
  go_wp2_with fail
  refine HB.out.mono ?_
  rintro e w1 ⟨rfl, rfl⟩
  go_wp2_with fail
  refine HTB.out.mono ?_
  rintro e w2 ⟨E, v1, v2, rfl, hEl, hE, hn, hF⟩
  have hFd : Fr NoB w2 w2.drew := (Fr.refl _ _).drew
  have hN := digitsLookup (b + 1) w2.drew ((HT.out.fr hF (fun _ _ h => h)).fr hFd (fun _ _ h => h)) (by omega) (by omega)
  rw [show ((b + 1 : Nat) : Int) = (b : Int) + 1 by omega] at hN
  unfold TabRes at hN
  rw [ht] at hN
  have HN := hid hN
  have e0 : w2.cell? ⟨E, 0, none⟩ = some (.int .i64 (d : Int)) := by rw [blk_cell hE]; rfl
  have e0d : w2.drew.cell? ⟨E, 0, none⟩ = some (.int .i64 (d : Int)) := e0
  have HE := hid hE; have HF := hid hF; have HN1 := hid hn; have HEL := hid hEl
  clear hE hn hF hFd hN ht hEl
  go_wp2_with fail
  go_region_with (first | (go_at_call 166; refine HN.out.mono ?_; rintro e w3 ⟨E', v1', v2', rfl, hEl', hE', hn', hF'⟩; have k3 : w3.cell? ⟨E', 0, none⟩ = some (.int .i64 (d' : Int)) := (by rw [blk_cell hE']; rfl); have k4 : w3.cell? ⟨E, 0, none⟩ = some (.int .i64 (d : Int)) := hF'.cell' e0d (fun h => h); have HF3 := hid (show Fr NoB w w3 from HF.out.drew.trans hF' (fun _ _ h => h)); have HG3 := hid (show Fr NoB w2 w3 from (Fr.refl NoB w2).drew.trans hF' (fun _ _ h => h)); clear hE' hn' hF'))
  all_goals
    have HS : Hid (Calls Tryz.prog 103 #[.pointer (some ⟨D, o, none⟩)] w3 fun e w' => e = .returned (.int .i64 1) ∧ w3 = w') := hid (by
      obtain ⟨n, hn⟩ : ∃ n, (limbs V).length = n := ⟨_, rfl⟩
      have hn1 : 1 ≤ n := by have := limbs_len_pos HVZ.out; omega
      obtain ⟨Av, cv, hvs⟩ := HV.out.shape
      rw [hn] at hvs
      have hD3 : BlkAt w3 D ca ta := HF3.out.blk HD.out (fun h => h)
      have := bigSign_any D o false Av n cv false w3 (by rw [blk_cell hD3]; exact HA0.out) (by rw [blk_cell hD3]; rw [HA1.out, hvs]) (by rw [blk_cell hD3]; exact HA2.out)
      rw [show bigSign false n false = 1 by unfold bigSign; rw [if_neg (by simp), if_neg (by omega), if_neg (by simp)]] at this
      exact this)
    have HC : Hid (Calls Tryz.prog 142 #[.pointer (some ⟨D, o, none⟩), .pointer (some ⟨E, 1, none⟩)] w3 fun e w' => e = .returned (.int .i64 (cmpZ V (10 ^ d))) ∧ Fr NoB w3 w') := hid (by
      have hD3 : BlkAt w3 D ca ta := HF3.out.blk HD.out (fun h => h)
      have hE3 := HG3.out.blk HE.out (fun h => h)
      have hDlt := blk_lt HD.out
      have hEl := HEL.out
      exact bigCmp D o E 1 V (10 ^ d) ca _ ta 219 v v1 w3 (by omega) hD3 hE3 HA0.out HA1.out HA2.out rfl rfl rfl (HV.out.fr HF3.out (fun _ _ h => h)) (HN1.out.fr HG3.out (fun _ _ h => h)))
    have b4 := B4.out
    have b5 : ¬ (d' : Int) = (d : Int) := by have := HDD.out; omega
    have hd1 : (d : Int) ≤ 100 := by have := HDZ.out; omega
    go_wp2_with (first | (go_at_call 103; refine HS.out.mono ?_; rintro e w4 ⟨rfl, rfl⟩))
    refine HC.out.mono ?_
    rintro e w4 ⟨rfl, hF4⟩
    have k5 : w4.cell? ⟨E, 0, none⟩ = some (.int .i64 (d : Int)) := hF4.cell' k4 (fun h => h)
    have HF4 := hid (HF3.out.trans hF4 (fun _ _ h => h))
    clear hF4
    by_cases hlt2 : V < 10 ^ d
    · have N := hid (show NdRes w V d (.returned (.int .i64 (d : Int))) w4 from ⟨by rw [ndOf, if_pos hlt2], HF4.out⟩)
      rw [cmpZ_lt hlt2]
      clear hlt2
      go_wp2_with fail
      go_ret
      exact N.out
    · have N := hid (show NdRes w V d (.returned (.int .i64 ((d : Int) + 1))) w4 from ⟨by rw [ndOf, if_neg hlt2], HF4.out⟩)
      rcases cmpZ_ge hlt2 with h | h
      all_goals
        rw [h]
        clear hlt2 h
        go_wp2_with fail
        go_ret
        exact N.out

set_option maxRecDepth 100000 in
set_option maxHeartbeats 2000000 in
theorem numDigits_128 (D o : Nat) (ca : Array Value) (ta : TypeId) (v : Value) (V b d : Nat) (w : World) (hD : BlkAt w D ca ta) (a0 : ca[o]? = some (.bool false)) (a1 : ca[o + 1]? = some v) (a2 : ca[o + 2]? = some (.bool false)) (hv : NatAt w v (limbs V)) (hT : Thr w) (hb : blen V = b) (hb2 : b = 128) (hd : tabDigits b = d) (hV : V ≠ 0) (hdz : d ≤ 100) :
    Calls Tryz.prog 132 #[.pointer (some ⟨D, o, none⟩)] w (NdRes w V d) := by
  have h1 : w.cell? ⟨D, o + 1, none⟩ = some v := by rw [blk_cell hD]; exact a1
  have HB := bigBitLen D o v V w h1 hv
  rw [hb] at HB
  have HB := hid HB
  have HTB := digitsLookup b w hT (by omega) (by omega)
  unfold TabRes at HTB
  rw [hd] at HTB
  have HTB := hid HTB
  clear hd
  have HT := hid hT
  have b0 : ((b : Int) == 0) = false := beq_eq_false_iff_ne.2 (by omega)
  have b1 : decide ((b : Int) < 128) = false := decide_eq_false (by omega)
  have b2 : (b : Int) ≤ 128 := by omega
  have b3 : ¬ (b : Int) < 128 := by omega
  have HD := hid hD; have HV := hid hv; have HA0 := hid a0; have HA1 := hid a1; have HA2 := hid a2
  have HVZ := hid hV; have HDZ := hid hdz
  clear h1 hv hT hb hD a0 a1 a2 hV hdz hb2
  go_enter Tryz.func132, Tryz.ntmps132
  go_wp2_with fail
  refine HB.out.mono ?_
  rintro e w1 ⟨rfl, rfl⟩
  go_wp2_with fail
  refine HTB.out.mono ?_
  rintro e w2 ⟨E, v1, v2, rfl, hEl, hE, hn, hF⟩
  have e0 : w2.cell? ⟨E, 0, none⟩ = some (.int .i64 (d : Int)) := by rw [blk_cell hE]; rfl
  have HE := hid hE; have HF := hid hF; have HN1 := hid hn; have HEL := hid hEl
  clear hE hn hF hEl
  go_wp2_with fail
  go_quiet (fail)
  have HG3 := hid (show Fr NoB w2 (w2.drewN nq) from (Fr.refl NoB w2).drewN _)
  have HF3 := hid (show Fr NoB w (w2.drewN nq) from HF.out.trans HG3.out (fun _ _ h => h))
  have k4 : (w2.drewN nq).cell? ⟨E, 0, none⟩ = some (.int .i64 (d : Int)) := e0
  generalize w2.drewN nq = w3 at *
  have HS : Hid (Calls Tryz.prog 103 #[.pointer (some ⟨D, o, none⟩)] w3 fun e w' => e = .returned (.int .i64 1) ∧ w3 = w') := hid (by
    obtain ⟨n, hn⟩ : ∃ n, (limbs V).length = n := ⟨_, rfl⟩
    have hn1 : 1 ≤ n := by have := limbs_len_pos HVZ.out; omega
    obtain ⟨Av, cv, hvs⟩ := HV.out.shape
    rw [hn] at hvs
    have hD3 : BlkAt w3 D ca ta := HF3.out.blk HD.out (fun h => h)
    have := bigSign_any D o false Av n cv false w3 (by rw [blk_cell hD3]; exact HA0.out) (by rw [blk_cell hD3]; rw [HA1.out, hvs]) (by rw [blk_cell hD3]; exact HA2.out)
    rw [show bigSign false n false = 1 by unfold bigSign; rw [if_neg (by simp), if_neg (by omega), if_neg (by simp)]] at this
    exact this)
  have HC : Hid (Calls Tryz.prog 142 #[.pointer (some ⟨D, o, none⟩), .pointer (some ⟨E, 1, none⟩)] w3 fun e w' => e = .returned (.int .i64 (cmpZ V (10 ^ d))) ∧ Fr NoB w3 w') := hid (by
    have hD3 : BlkAt w3 D ca ta := HF3.out.blk HD.out (fun h => h)
    have hE3 := HG3.out.blk HE.out (fun h => h)
    have hDlt := blk_lt HD.out
    have hEl := HEL.out
    exact bigCmp D o E 1 V (10 ^ d) ca _ ta 219 v v1 w3 (by omega) hD3 hE3 HA0.out HA1.out HA2.out rfl rfl rfl (HV.out.fr HF3.out (fun _ _ h => h)) (HN1.out.fr HG3.out (fun _ _ h => h)))
  have hd1 : (d : Int) ≤ 100 := by have := HDZ.out; omega
  go_wp2_with (first | (go_at_call 103; refine HS.out.mono ?_; rintro e w4 ⟨rfl, rfl⟩))
  refine HC.out.mono ?_
  rintro e w4 ⟨rfl, hF4⟩
  have k5 : w4.cell? ⟨E, 0, none⟩ = some (.int .i64 (d : Int)) := hF4.cell' k4 (fun h => h)
  have HF4 := hid (HF3.out.trans hF4 (fun _ _ h => h))
  clear hF4
  by_cases hlt2 : V < 10 ^ d
  · have N := hid (show NdRes w V d (.returned (.int .i64 (d : Int))) w4 from ⟨by rw [ndOf, if_pos hlt2], HF4.out⟩)
    rw [cmpZ_lt hlt2]
    clear hlt2
    go_wp2_with fail
    go_ret
    exact N.out
  · have N := hid (show NdRes w V d (.returned (.int .i64 ((d : Int) + 1))) w4 from ⟨by rw [ndOf, if_neg hlt2], HF4.out⟩)
    rcases cmpZ_ge hlt2 with h | h
    all_goals
      rw [h]
      clear hlt2 h
      go_wp2_with fail
      go_ret
      exact N.out
end Go.Proofs.YteokhhepnoelhaaGreatDoor

set_option linter.unusedVariables false
set_option linter.unusedSimpArgs false
namespace Go.Proofs.YteokhhepnoelhaaGreatDoor
open Go.RowKit

def ndBig (V d : Nat) : Int := if V < 10 ^ d then (d : Int) else (d : Int) + 1
def NdBig (w : World) (V d : Nat) (e : Ending) (w' : World) : Prop := e = .returned (.int .i64 (ndBig V d)) ∧ Fr NoB w w'
theorem cmpZ_below {V M : Nat} (h : V < M) : cmpZ V M = -1 := by unfold cmpZ; rw [if_pos h]
theorem cmpZ_above {V M : Nat} (h : ¬ V < M) : cmpZ V M = 0 ∨ cmpZ V M = 1 := by unfold cmpZ; rw [if_neg h]; split <;> simp

theorem back_step2 (x : Nat) (w : World) : (convert 220 2 (.float .f64 x)).run Tryz.prog w = (Conv.floatToInt .f64 x .i64).run Tryz.prog w := by kernel_rfl

set_option maxRecDepth 100000 in
set_option maxHeartbeats 2000000 in
theorem numDigits_big (D o : Nat) (ca : Array Value) (ta : TypeId) (v : Value) (V b n : Nat) (w : World) (hD : BlkAt w D ca ta) (a0 : ca[o]? = some (.bool false)) (a1 : ca[o + 1]? = some v) (a2 : ca[o + 2]? = some (.bool false)) (hv : NatAt w v (limbs V)) (hT : Thr w) (hb : blen V = b) (hb1 : 129 ≤ b) (hb2 : b < 300) (hbn : b * 30103 / 100000 = n) (hV : V ≠ 0) :
    Calls Tryz.prog 132 #[.pointer (some ⟨D, o, none⟩)] w (NdBig w V n) := by
  have h1 : w.cell? ⟨D, o + 1, none⟩ = some v := by rw [blk_cell hD]; exact a1
  have HB := bigBitLen D o v V w h1 hv
  rw [hb] at HB
  have HB := hid HB
  obtain ⟨f, q, c1, c2, c3⟩ := places_facts b hb2
  have hn1 : 1 ≤ n := by omega
  have hn2 : n ≤ 100 := by omega
  rw [hbn] at c3
  have c3 : ∀ w, (convert 220 2 (.float .f64 q)).run Tryz.prog w = .ok (.int .i64 (n : Int)) w := fun w => by rw [back_step2, ← back_step]; exact c3 w
  have hZ := blk_new w (.cells #[.bool false, .slice none 0 0, .bool false] 70 (0, 0))
  have hF0 : Fr NoB w (w.alloc (.cells #[.bool false, .slice none 0 0, .bool false] 70)) := (Fr.refl _ _).alloc _
  have h19 := hT.size
  have HX := hid (tableExp10 w.heap.size 0 _ 70 false false n (w.alloc (.cells #[.bool false, .slice none 0 0, .bool false] 70)) hZ rfl rfl rfl (hT.fr hF0 (fun _ _ h => h)) hn1 hn2 (by omega))
  have b0 : ((b : Int) == 0) = false := beq_eq_false_iff_ne.2 (by omega)
  have b2 : ¬ (b : Int) ≤ 128 := by omega
  have b3 : (128 : Int) < b := by omega
  have hn3 : (n : Int) ≤ 100 := by omega
  have HD := hid hD; have HV := hid hv; have HA0 := hid a0; have HA1 := hid a1; have HA2 := hid a2
  have HVZ := hid hV; have HF0 := hid hF0
  clear h1 hv hT hb hD a0 a1 a2 hV hZ hF0 hbn hb1 hb2
  go_enter Tryz.func132, Tryz.ntmps132
  go_wp2_with fail
  refine HB.out.mono ?_
  rintro e w1 ⟨rfl, rfl⟩
  go_wp2_with fail
  refine HX.out.mono ?_
  rintro e w3 ⟨rfl, vz, hE3, hvz, hgz, hFz⟩
  have HF3 := hid (show Fr NoB w w3 from HF0.out.trans hFz (fun i hi h => by have h : i = w.heap.size := h; omega))
  have HE3 := hid hE3; have HVz := hid hvz
  clear hE3 hvz hgz hFz
  have HS : Hid (Calls Tryz.prog 103 #[.pointer (some ⟨D, o, none⟩)] w3 fun e w' => e = .returned (.int .i64 1) ∧ w3 = w') := hid (by
    obtain ⟨n, hn⟩ : ∃ n, (limbs V).length = n := ⟨_, rfl⟩
    have hn1 : 1 ≤ n := by have := limbs_len_pos HVZ.out; omega
    obtain ⟨Av, cv, hvs⟩ := HV.out.shape
    rw [hn] at hvs
    have hD3 : BlkAt w3 D ca ta := HF3.out.blk HD.out (fun h => h)
    have := bigSign_any D o false Av n cv false w3 (by rw [blk_cell hD3]; exact HA0.out) (by rw [blk_cell hD3]; rw [HA1.out, hvs]) (by rw [blk_cell hD3]; exact HA2.out)
    rw [show bigSign false n false = 1 by unfold bigSign; rw [if_neg (by simp), if_neg (by omega), if_neg (by simp)]] at this
    exact this)
  have HC : Hid (Calls Tryz.prog 142 #[.pointer (some ⟨D, o, none⟩), .pointer (some ⟨w.heap.size, 0, none⟩)] w3 fun e w' => e = .returned (.int .i64 (cmpZ V (10 ^ n))) ∧ Fr NoB w3 w') := hid (by
    have hD3 : BlkAt w3 D ca ta := HF3.out.blk HD.out (fun h => h)
    have hDlt := blk_lt HD.out
    exact bigCmp D o w.heap.size 0 V (10 ^ n) ca _ ta 70 v vz w3 (by omega) hD3 HE3.out HA0.out HA1.out HA2.out rfl rfl rfl (HV.out.fr HF3.out (fun _ _ h => h)) HVz.out)
  go_wp2_with (first | (go_at_call 103; refine HS.out.mono ?_; rintro e w4 ⟨rfl, rfl⟩))
  refine HC.out.mono ?_
  rintro e w4 ⟨rfl, hF4⟩
  have HF4 := hid (HF3.out.trans hF4 (fun _ _ h => h))
  clear hF4
  by_cases hlt2 : V < 10 ^ n
  · have N := hid (show NdBig w V n (.returned (.int .i64 (n : Int))) w4 from ⟨by rw [ndBig, if_pos hlt2], HF4.out⟩)
    rw [cmpZ_below hlt2]
    clear hlt2
    go_wp2_with fail
    go_ret
    exact N.out
  · have N := hid (show NdBig w V n (.returned (.int .i64 ((n : Int) + 1))) w4 from ⟨by rw [ndBig, if_neg hlt2], HF4.out⟩)
    rcases cmpZ_above hlt2 with h | h
    all_goals
      rw [h]
      clear hlt2 h
      go_wp2_with fail
      go_ret
      exact N.out

theorem numDigits_nought (D o : Nat) (v : Value) (V : Nat) (w : World) (h1 : w.cell? ⟨D, o + 1, none⟩ = some v) (hv : NatAt w v (limbs V)) (hV : V = 0) :
    Calls Tryz.prog 132 #[.pointer (some ⟨D, o, none⟩)] w fun e w' => e = .returned (.int .i64 1) ∧ Fr NoB w w' := by
  have HB := bigBitLen D o v V w h1 hv
  rw [show blen V = 0 by subst hV; rfl] at HB
  have HB := hid HB
  clear h1 hv hV
  go_enter Tryz.func132, Tryz.ntmps132
  go_wp2_with fail
  refine HB.out.mono ?_
  rintro e w1 ⟨rfl, rfl⟩
  go_wp2_with fail
  go_ret
  exact ⟨rfl, Fr.refl _ _⟩
end Go.Proofs.YteokhhepnoelhaaGreatDoor

set_option linter.unusedVariables false
set_option linter.unusedSimpArgs false
namespace Go.Proofs.YteokhhepnoelhaaGreatDoor
open Go.RowKit

theorem nDigits_is {V k : Nat} (h1 : 10 ^ k ≤ V) (h2 : V < 10 ^ (k + 1)) : Lib.nDigits V = k + 1 := Lib.nDigits_unique k V h1 h2
theorem nDigits_between {V d : Nat} (hd : 1 ≤ d) (h1 : 10 ^ (d - 1) ≤ V) (h2 : V < 10 ^ (d + 1)) : ((Lib.nDigits V : Nat) : Int) = if V < 10 ^ d then (d : Int) else (d : Int) + 1 := by
  obtain ⟨k, rfl⟩ : ∃ k, d = k + 1 := ⟨d - 1, by omega⟩
  by_cases h : V < 10 ^ (k + 1)
  · rw [if_pos h, nDigits_is (by simpa using h1) h]
  · rw [if_neg h, nDigits_is (by omega) h2]
    omega
/-- The table's row holds the least number of its bits. -/
theorem tab_between {V b : Nat} (h0 : V ≠ 0) (hb : blen V = b) : 1 ≤ tabDigits b ∧ 10 ^ (tabDigits b - 1) ≤ V ∧ V < 10 ^ (tabDigits b + 1) ∧ V < 2 ^ b := by
  obtain ⟨h1, h2, h3⟩ := blen_bounds h0
  rw [hb] at h1 h2 h3
  have hp : (2 : Nat) ^ (b - 1) ≠ 0 := Nat.ne_of_gt (Nat.pow_pos (by omega))
  have t1 : 10 ^ (tabDigits b - 1) ≤ 2 ^ (b - 1) := pow_le_nDigits _ _ (Nat.le_refl _) hp
  have t2 : 2 ^ (b - 1) < 10 ^ tabDigits b := Lib.lt_pow_nDigits _
  have t3 : (2 : Nat) ^ b = 2 * 2 ^ (b - 1) := by
    obtain ⟨c, rfl⟩ : ∃ c, b = c + 1 := ⟨b - 1, by omega⟩
    rw [Nat.pow_succ, Nat.add_sub_cancel]; omega
  refine ⟨Lib.nDigits_pos _, by omega, ?_, h2⟩
  rw [Nat.pow_succ]
  omega

theorem digOk_of (V : Nat) (nd : Int) (h : ∀ (D : Nat) (f : Int) (n : Bool) (e0 : Int) (v : Value) (w : World), DecAt w D f n e0 false v false → NatAt w v (limbs V) → Thr w →
    Calls Tryz.prog 132 #[.pointer (some ⟨D, 3, none⟩)] w fun e w' => e = .returned (.int .i64 nd) ∧ Fr NoB w w') : DigOk V nd := by
  intro D f n e0 v w hD hv hT
  have hN := hid (h D f n e0 v w hD hv hT)
  clear hD hv hT h
  go_enter Tryz.func88, Tryz.ntmps88
  go_wp2_with fail
  refine hN.out.mono ?_
  rintro e w1 ⟨rfl, hF⟩
  have HF := hid hF
  clear hF
  go_wp2_with fail
  go_ret
  exact ⟨rfl, HF.out⟩

theorem big_all : (List.range 300).all (fun b => decide (129 ≤ b → 10 ^ (b * 30103 / 100000 - 1) ≤ 2 ^ (b - 1) ∧ 2 ^ b ≤ 10 ^ (b * 30103 / 100000 + 1))) = true := by decide +kernel

/-- NumDigits of any BigInt of ours that is not negative. -/
theorem numDigits_any (D o : Nat) (ca : Array Value) (ta : TypeId) (v : Value) (V : Nat) (hb : blen V < 300) (w : World) (hD : BlkAt w D ca ta) (a0 : ca[o]? = some (.bool false)) (a1 : ca[o + 1]? = some v) (a2 : ca[o + 2]? = some (.bool false)) (hv : NatAt w v (limbs V)) (hT : Thr w) :
    Calls Tryz.prog 132 #[.pointer (some ⟨D, o, none⟩)] w fun e w' => e = .returned (.int .i64 ((Lib.nDigits V : Nat) : Int)) ∧ Fr NoB w w' := by
  have h1 : w.cell? ⟨D, o + 1, none⟩ = some v := by rw [blk_cell hD]; exact a1
  by_cases h0 : V = 0
  · have := numDigits_nought D o v V w h1 hv h0
    rw [show Lib.nDigits V = 1 by subst h0; exact Lib.nDigits_small (by omega)]
    exact this
  · obtain ⟨b, hbb⟩ : ∃ b, blen V = b := ⟨_, rfl⟩
    obtain ⟨t1, t2, t3, t4⟩ := tab_between h0 hbb
    have hbp := (blen_bounds h0).2.2
    rw [hbb] at hb hbp
    by_cases hlt : b < 128
    · obtain ⟨d, hd⟩ : ∃ d, tabDigits b = d := ⟨_, rfl⟩
      have hd40 := (tabDigits_bounds hbp (by omega)).2
      rw [hd] at t1 t2 t3 hd40
      by_cases hs : tabDigits (b + 1) = d
      · have h := numDigits_same D o v V b d w h1 hv hT hbb hbp hlt hd hs
        have e : Lib.nDigits V = d := by
          have l1 : V < 10 ^ d := by
            have : 2 ^ (b + 1 - 1) < 10 ^ tabDigits (b + 1) := Lib.lt_pow_nDigits _
            rw [hs, Nat.add_sub_cancel] at this
            omega
          obtain ⟨k, rfl⟩ : ∃ k, d = k + 1 := ⟨d - 1, by omega⟩
          exact nDigits_is (by simpa using t2) l1
        rw [e]
        exact h
      · have h := numDigits_differ D o ca ta v V b d _ w hD a0 a1 a2 hv hT hbb hbp hlt hd rfl (fun h => hs h.symm) h0 (by omega)
        rw [nDigits_between t1 t2 t3]
        exact h
    · by_cases h128 : b = 128
      · obtain ⟨d, hd⟩ : ∃ d, tabDigits b = d := ⟨_, rfl⟩
        have hd40 := (tabDigits_bounds hbp (by omega)).2
        rw [hd] at t1 t2 t3 hd40
        have h := numDigits_128 D o ca ta v V b d w hD a0 a1 a2 hv hT hbb h128 hd h0 (by omega)
        rw [nDigits_between t1 t2 t3]
        exact h
      · have h := numDigits_big D o ca ta v V b (b * 30103 / 100000) w hD a0 a1 a2 hv hT hbb (by omega) hb rfl h0
        have hq := of_decide_eq_true (List.all_eq_true.1 big_all b (by simpa using hb)) (by omega)
        have hbl := blen_bounds h0
        rw [hbb] at hbl
        rw [nDigits_between (d := b * 30103 / 100000) (by omega) (by omega) (by omega)]
        exact h

theorem digOk_all (V : Nat) (hb : blen V < 300) : DigOk V ((Lib.nDigits V : Nat) : Int) :=
  digOk_of V _ fun D f n e0 v w hD hv hT => numDigits_any D 3 _ _ v V hb w hD rfl rfl rfl hv hT
end Go.Proofs.YteokhhepnoelhaaGreatDoor

set_option linter.unusedVariables false
set_option linter.unusedSimpArgs false
namespace Go.Proofs.YteokhhepnoelhaaGreatDoor
open Go.RowKit

theorem specRead_empty (w : World) : Calls Tryz.prog 8 #[.string ⟨([] : List UInt8).toArray⟩] w (ReadEnd8 w []) := by
  go_enter Tryz.func8, Tryz.ntmps8
  go_wp2_with fail
  refine wp_loop_rounds 1 ?_
  repeat any_goals (rw [rounds_succ]; go_wp2_with fail)
  exact bodyPost_ret (v := .tuple #[.agg #[.bool false, .slice none 0 0, .int .i64 0], .bool false]) (by simp [results, Tryz.results8, go_sem]) rfl (readEnd_no _ _ _ _ _ (((Fr.refl _ _).alloc _).alloc _))

theorem specRead (l : List UInt8) (w : World) (hl : l.length ≤ 60) : Calls Tryz.prog 8 #[.string ⟨l.toArray⟩] w (ReadEnd8 w l) := by
  cases h : l with
  | nil => exact specRead_empty w
  | cons x t =>
    rw [← h]
    have ht : t.length ≤ 60 := by rw [h, List.length_cons] at hl; omega
    by_cases h1 : x = 45
    · exact specRead_minus l t w (by rw [h, h1]) ht
    · by_cases h2 : x = 43
      · exact specRead_plus l t w (by rw [h, h2]) ht
      · exact specRead_none l l x t w rfl hl h h1 h2

/-- A text that is a number, as setString sees it. -/
theorem NumText.low {l ds : List UInt8} {neg : Bool} {e : Int} (h : NumText l neg ds e) (hl : l.length ≤ 250) : NumLow l neg ds e ∧ Digs ds ∧ ds.length ≤ l.length := by
  obtain ⟨sg, a, dot, b, ex, x, h1, h2, h3, h4, h5, h6, h7, rfl, rfl⟩ := h
  have hlen := congrArg List.length h1
  simp only [List.length_append] at hlen
  refine ⟨numLow h1 h2 h3 h4 h5 h6 h7 (by omega), fun c hc => ?_, by simp only [List.length_append]; omega⟩
  rw [List.mem_append] at hc
  exact hc.elim (h3 c) (h4 c)

theorem blen_small {V k : Nat} (h : V < 2 ^ k) : blen V ≤ k := by
  by_cases h0 : V = 0
  · subst h0; simp [blen]
  · obtain ⟨h1, h2, h3⟩ := blen_bounds h0
    rcases Nat.lt_or_ge k (blen V) with h4 | h4
    · have := Nat.pow_le_pow_right (n := 2) (by omega) (show k ≤ blen V - 1 by omega)
      omega
    · exact h4
theorem decVal_bits {ds : List UInt8} (hd : Digs ds) (hl : ds.length ≤ 60) : blen (decVal ds) ≤ 200 := by
  refine blen_small ?_
  have h1 := decVal_lt ds hd
  have h2 : 10 ^ ds.length ≤ 10 ^ 60 := Nat.pow_le_pow_right (by omega) hl
  have h3 : (10 : Nat) ^ 60 < 2 ^ 200 := by decide
  omega
theorem nDigits_bits {V : Nat} (h : blen V ≤ 200) : 1 ≤ Lib.nDigits V ∧ Lib.nDigits V ≤ 100 := by
  refine ⟨Lib.nDigits_pos _, ?_⟩
  by_cases h0 : V = 0
  · subst h0; rw [Lib.nDigits_small (by omega)]; omega
  · have h2 := (blen_bounds h0).2.1
    have h3 : (2 : Nat) ^ blen V ≤ 2 ^ 200 := Nat.pow_le_pow_right (by omega) h
    have h4 : (2 : Nat) ^ 200 < 10 ^ 100 := by decide
    exact nDigits_le h0 (by omega)
theorem limbs_bits {V : Nat} (h : blen V ≤ 200) : (limbs V).length ≤ 4 := limbs_len_blen V 4 (by omega)
theorem digs_bits {V : Nat} (h : blen V ≤ 200) : (digs V).length ≤ 10000 := by
  have h1 := limbs_bits h
  have h2 := digs_len_ws (limbs V) (limbs_lt V)
  rw [nval_limbs] at h2
  omega

set_option maxRecDepth 100000 in
set_option maxHeartbeats 4000000 in
theorem parse_law (l : List UInt8) (w : World)
    (hR : l.length ≤ 60 → Calls Tryz.prog 8 #[.string ⟨l.toArray⟩] w (ReadEnd8 w l))
    (hP : ∀ neg ds e, NumText l neg ds e → l.length ≤ 60 → ∀ wx, Fr NoB w wx → Calls Tryz.prog 9 #[.string ⟨l.toArray⟩] wx (ParseRes wx neg (decVal ds) e)) :
    Calls Tryz.prog 3 #[.string ⟨l.toArray⟩] w fun e w' => e = .returned (.bool true) ∧ Fr NoB w w' := by
  have HR := hid hR; have HP := hid hP
  clear hR hP
  have hz := str_size l
  by_cases h1 : (2147483647 : Int) < l.length
  · go_enter Tryz.func3, Tryz.ntmps3
    go_wp2_with fail
    go_ret
    exact ⟨rfl, Fr.refl _ _⟩
  by_cases h2 : (60 : Int) < l.length
  · go_enter Tryz.func3, Tryz.ntmps3
    go_wp2_with fail
    go_ret
    exact ⟨rfl, Fr.refl _ _⟩
  have H60 := hid (show l.length ≤ 60 by omega)
  go_enter Tryz.func3, Tryz.ntmps3
  go_wp2_with fail
  refine (HR.out H60.out).mono ?_
  rintro e w1 ⟨hF1, neg, A, n, c, x, ok, rfl, hok⟩
  have HF1 := hid hF1; have HOK := hid hok
  clear hF1 hok
  cases ok with
  | false =>
    go_wp2_with fail
    go_ret
    exact ⟨rfl, HF1.out.alloc _⟩
  | true =>
    obtain ⟨ds, hN, hC⟩ := HOK.out rfl
    have HN := hid hN; have HC := hid hC
    clear HOK hN hC
    have HDD := hid (HN.out.low (by have := H60.out; omega))
    have HBL := hid (decVal_bits HDD.out.2.1 (by have := HDD.out.2.2; have := H60.out; omega))
    have HV1 : Hid (BlkAt (w1.alloc (.cells #[.bool neg, .slice A n c, .int .i64 x] 25)) w1.heap.size #[.bool neg, .slice A n c, .int .i64 x] 25) := hid (blk_new _ _)
    have HG1 : Hid (Fr NoB w1 (w1.alloc (.cells #[.bool neg, .slice A n c, .int .i64 x] 25))) := hid ((Fr.refl _ _).alloc _)
    go_wp2_with fail
    generalize (w1.alloc (.cells #[.bool neg, .slice A n c, .int .i64 x] 25)) = W1 at *
    have HF2 := hid (HF1.out.trans HG1.out (fun _ _ h => h))
    refine (HP.out neg ds x HN.out H60.out W1 HF2.out).mono ?_
    rintro e w2 ⟨A2, n2, c2, rfl, hown, hF3⟩
    have HG2 := hid hF3
    have HW := hid (CW_of_own hown)
    clear hown hF3
    have HZ2 : Hid (BlkAt (w2.alloc (.cells #[.int .i64 0, .bool neg, .slice A2 n2 c2, .int .i64 x] 30)) w2.heap.size #[.int .i64 0, .bool neg, .slice A2 n2 c2, .int .i64 x] 30) := hid (blk_new _ _)
    have HG3 : Hid (Fr NoB w2 (w2.alloc (.cells #[.int .i64 0, .bool neg, .slice A2 n2 c2, .int .i64 x] 30))) := hid ((Fr.refl _ _).alloc _)
    go_wp2_with fail
    generalize (w2.alloc (.cells #[.int .i64 0, .bool neg, .slice A2 n2 c2, .int .i64 x] 30)) = W2 at *
    have HO := ofDecC 0 neg (limbs (decVal ds)) x (limbs_lt _) (by have := limbs_bits HBL.out; omega) A2 n2 c2 W2 (HW.out.fr HG3.out)
    unfold OfDecRes at HO
    rw [nval_limbs, show (decide ((0 : Int) = 0) && decide (limbs (decVal ds) = limbs (decVal ds))) = true by simp] at HO
    refine HO.mono ?_
    clear HO
    rintro e w3 ⟨A3, n3, c3, rfl, hC3, hF4⟩
    have HG4 := hid hF4
    clear hC3 hF4
    have HZ3 : Hid (Fr NoB w3 (w3.alloc (.cells #[.bool neg, .slice A3 n3 c3, .int .i64 x] 25))) := hid ((Fr.refl _ _).alloc _)
    have HY3 : Hid (BlkAt (w3.alloc (.cells #[.bool neg, .slice A3 n3 c3, .int .i64 x] 25)) w3.heap.size #[.bool neg, .slice A3 n3 c3, .int .i64 x] 25) := hid (blk_new _ _)
    have HZv := hid (HG4.out.trans HZ3.out (fun _ _ h => h))
    have HVv := hid (((HG2.out.trans HG3.out (fun _ _ h => h)).trans HZv.out (fun _ _ h => h)))
    have hz3 := HZv.out.blk HZ2.out (fun h => h)
    have hv3 := HVv.out.blk HV1.out (fun h => h)
    have z0 := blk_cell hz3 0; have z1 := blk_cell hz3 1; have z2 := blk_cell hz3 2; have z3 := blk_cell hz3 3
    have v0 := blk_cell hv3 0; have v1 := blk_cell hv3 1; have v2 := blk_cell hv3 2
    have y0 := blk_cell HY3.out 0
    simp only [List.getElem?_toArray, List.getElem?_cons_zero, List.getElem?_cons_succ] at z0 z1 z2 z3 v0 v1 v2 y0
    have HI := hid (isDecC neg (decVal ds) x (by have := limbs_bits HBL.out; omega) (digs_bits HBL.out) A2 A n2 c2 n c (w3.alloc (.cells #[.bool neg, .slice A3 n3 c3, .int .i64 x] 25))
      ((HW.out.fr HG3.out).fr HZv.out) ((HC.out.fr HG1.out).fr HVv.out))
    clear hz3 hv3
    have HFIN := hid (HF2.out.trans HVv.out (fun _ _ h => h))
    go_wp2_with fail
    refine HI.out.mono ?_
    rintro e w4 ⟨rfl, hF5⟩
    have HF5 := hid (HFIN.out.trans hF5 (fun _ _ h => h))
    have b0 := hF5.cell' v0 (fun h => h)
    have b1 := hF5.cell' y0 (fun h => h)
    clear hF5
    go_wp2_with fail
    go_ret
    exact ⟨by simp, HF5.out⟩

theorem parse_law_all (l : List UInt8) (w : World) {a : Addr} {tpS tpR : TypeId} {pS pR : Value} {r : ByteArray} (hV : Vars w a tpS tpR pS pR r) (hT : Thr w) :
    Calls Tryz.prog 3 #[.string ⟨l.toArray⟩] w fun e w' => e = .returned (.bool true) ∧ Below w.heap.size w w' :=
  (parse_law l w (fun hl => specRead l w hl) (fun neg ds e hN hl wx hx => by
    obtain ⟨h1, h2, h3⟩ := hN.low (by omega)
    have hb := decVal_bits h2 (by omega)
    have hn := nDigits_bits hb
    exact parse_text l ds neg e _ wx (hV.below hx.below) (hT.fr hx (fun _ _ h => h)) h1 (by omega) (digOk_all _ (by omega)) (by omega) (by omega) (by have := limbs_bits hb; omega))).mono fun e w' ⟨he, hF⟩ => ⟨he, hF.below⟩
end Go.Proofs.YteokhhepnoelhaaGreatDoor

set_option linter.unusedVariables false
set_option linter.unusedSimpArgs false
namespace Go.Proofs.YteokhhepnoelhaaGreatDoor
open Go.RowKit

def baseData : DataW Unit := .agg [.lit (.int .u32 0), .lit (.int .i32 100000), .lit (.int .i32 (-100000)), .lit (.int .u32 1967), .lit (.string [])]

theorem Tryz.ctxName : Tryz.prog.globalNamed "loop.example/pub-g03241/pub/apd.BaseContext" = some 0 := by kernel_rfl
theorem Tryz.ctxType : (Tryz.prog.globals[0]?).map (·.type) = some 85 := by kernel_rfl
theorem Tryz.ctxFields : ∃ f0 f1 f2 f3 f4 : Field, Tryz.prog.underlying 85 = some (.struct #[f0, f1, f2, f3, f4]) ∧ (f0.type = 52 ∧ f0.offset = 0) ∧ (f1.type = 21 ∧ f1.offset = 1) ∧ (f2.type = 21 ∧ f2.offset = 2) ∧ (f3.type = 53 ∧ f3.offset = 3) ∧ (f4.type = 83 ∧ f4.offset = 4) :=
  ⟨_, _, _, _, _, Tryz.underlying85, ⟨rfl, rfl⟩, ⟨rfl, rfl⟩, ⟨rfl, rfl⟩, ⟨rfl, rfl⟩, ⟨rfl, rfl⟩⟩
theorem Tryz.c85 : Tryz.prog.cellsOf 85 = 5 := by kernel_rfl
theorem Tryz.c52 : Tryz.prog.cellsOf 52 = 1 := by kernel_rfl
theorem Tryz.c21 : Tryz.prog.cellsOf 21 = 1 := by kernel_rfl
theorem Tryz.c53 : Tryz.prog.cellsOf 53 = 1 := by kernel_rfl
theorem Tryz.c83 : Tryz.prog.cellsOf 83 = 1 := by kernel_rfl

theorem lit_int {k : IntKind} {n m : Int} {xs : List (DataW Unit × List MemPlace)} {i : Nat} {q : List MemPlace} (h : some (DataW.lit (.int k n), q) = xs[i]?) (hx : (xs.map (·.1))[i]? = some (.lit (.int k m))) : n = m := by
  rw [List.getElem?_map, ← h] at hx
  simpa using hx

theorem ctx_of_reads {w : World} (h : Lib.VarReads Tryz.prog w "loop.example/pub-g03241/pub/apd.BaseContext" baseData) : CtxAt w 0 0 100000 (-100000) 1967 ⟨#[]⟩ := by
  obtain ⟨g, t, cs, fuel, p, hg, hty, hvar, hd⟩ := h
  obtain rfl := Option.some.inj (Tryz.ctxName.symm.trans hg)
  obtain rfl := Option.some.inj (Tryz.ctxType.symm.trans hty)
  obtain ⟨f0, f1, f2, f3, f4, hu, ⟨a0, b0⟩, ⟨a1, b1⟩, ⟨a2, b2⟩, ⟨a3, b3⟩, ⟨a4, b4⟩⟩ := Tryz.ctxFields
  obtain ⟨xs, n, _, hx, hl, _, hf⟩ := DataW.trod_struct hu hd
  rw [Tryz.c85] at hl
  have e := congrArg Prod.fst hx
  simp only [baseData, DataW.agg.injEq] at e
  have k0 := hf 0 f0 rfl; have k1 := hf 1 f1 rfl; have k2 := hf 2 f2 rfl; have k3 := hf 3 f3 rfl; have k4 := hf 4 f4 rfl
  rw [a0, b0, Tryz.c52] at k0; rw [a1, b1, Tryz.c21] at k1; rw [a2, b2, Tryz.c21] at k2; rw [a3, b3, Tryz.c53] at k3; rw [a4, b4, Tryz.c83] at k4
  have hcell : ∀ i v, cs.toList[i]? = some v → w.cell? ⟨0, i, none⟩ = some v := fun i v hi => by
    rw [World.var?_cell Tryz.ctxName hvar i, ← Array.getElem?_toList]; exact hi
  match hcs : cs.toList, hl with
  | [v0, v1, v2, v3, v4], _ =>
    rw [hcs] at k0 k1 k2 k3 k4 hcell
    have g0 : ∃ y, xs[0]? = some y := by rw [← Option.isSome_iff_exists]; have := congrArg (fun l => (l[0]?).isSome) e; simpa using this.symm
    have g1 : ∃ y, xs[1]? = some y := by rw [← Option.isSome_iff_exists]; have := congrArg (fun l => (l[1]?).isSome) e; simpa using this.symm
    have g2 : ∃ y, xs[2]? = some y := by rw [← Option.isSome_iff_exists]; have := congrArg (fun l => (l[2]?).isSome) e; simpa using this.symm
    have g3 : ∃ y, xs[3]? = some y := by rw [← Option.isSome_iff_exists]; have := congrArg (fun l => (l[3]?).isSome) e; simpa using this.symm
    have g4 : ∃ y, xs[4]? = some y := by rw [← Option.isSome_iff_exists]; have := congrArg (fun l => (l[4]?).isSome) e; simpa using this.symm
    obtain ⟨y0, g0⟩ := g0; obtain ⟨y1, g1⟩ := g1; obtain ⟨y2, g2⟩ := g2; obtain ⟨y3, g3⟩ := g3; obtain ⟨y4, g4⟩ := g4
    have m0 : y0.1 = .lit (.int .u32 0) := by have := congrArg (fun l => l[0]?) e; simpa [g0] using this.symm
    have m1 : y1.1 = .lit (.int .i32 100000) := by have := congrArg (fun l => l[1]?) e; simpa [g1] using this.symm
    have m2 : y2.1 = .lit (.int .i32 (-100000)) := by have := congrArg (fun l => l[2]?) e; simpa [g2] using this.symm
    have m3 : y3.1 = .lit (.int .u32 1967) := by have := congrArg (fun l => l[3]?) e; simpa [g3] using this.symm
    have m4 : y4.1 = .lit (.string []) := by have := congrArg (fun l => l[4]?) e; simpa [g4] using this.symm
    rw [g0] at k0; rw [g1] at k1; rw [g2] at k2; rw [g3] at k3; rw [g4] at k4
    obtain ⟨n0, q0, r0, _⟩ := DataW.trod_int Tryz.underlying52 k0
    obtain ⟨n1, q1, r1, _⟩ := DataW.trod_int Tryz.underlying21 k1
    obtain ⟨n2, q2, r2, _⟩ := DataW.trod_int Tryz.underlying21 k2
    obtain ⟨n3, q3, r3, _⟩ := DataW.trod_int Tryz.underlying53 k3
    obtain ⟨s4, q4, r4, _⟩ := DataW.trod_string Tryz.underlying83 k4
    rw [r0] at m0; rw [r1] at m1; rw [r2] at m2; rw [r3] at m3; rw [r4] at m4
    simp at q0 q1 q2 q3 q4 m0 m1 m2 m3 m4
    have hs4 : s4 = ⟨#[]⟩ := by
      apply ByteArray.ext
      apply Array.ext'
      simpa using m4
    subst hs4 m0 m1 m2 m3 q0 q1 q2 q3 q4
    exact ⟨hcell 0 _ rfl, hcell 1 _ rfl, hcell 2 _ rfl, hcell 3 _ rfl, hcell 4 _ rfl⟩
end Go.Proofs.YteokhhepnoelhaaGreatDoor

set_option linter.unusedVariables false
set_option linter.unusedSimpArgs false
namespace Go.Proofs.YteokhhepnoelhaaGreatDoor
open Go.RowKit Go.ChangeShapes Go.WideShapes Go.ChangeAt

theorem Tryz.own : ownKnob Tryz.prog.godebug = none := by kernel_rfl
theorem Tryz.laidOut : laidOutB Tryz.prog = true := by kernel_rfl

theorem trodVars_cons' {H : Type} {enc : TypeId × Value → H} {P : Program} {W : World} {sp : Nat → Bool} {n : String} {ns : List String} {gs : List (DataW H)} {ps : List MemPlace}
    (h : DataW.TrodVars enc P W sp (n :: ns) gs ps) : ∃ d ds ps', gs = d :: ds ∧ DataW.TrodVars enc P W sp ns ds ps' := by
  match gs, h with
  | [], h => exact h.elim
  | d :: ds, h =>
    obtain ⟨_, _, _, _, _, q, _, _, _, _, hs, _⟩ := h
    exact ⟨d, ds, q, rfl, hs⟩
theorem trodVars_nil' {H : Type} {enc : TypeId × Value → H} {P : Program} {W : World} {sp : Nat → Bool} {gs : List (DataW H)} {ps : List MemPlace}
    (h : DataW.TrodVars enc P W sp [] gs ps) : gs = [] := by
  match gs, h with
  | [], _ => rfl
  | _ :: _, h => exact h.elim
theorem trodVars_eight {H : Type} {enc : TypeId × Value → H} {P : Program} {W : World} {sp : Nat → Bool} {n1 n2 n3 n4 n5 n6 n7 n8 : String} {gs : List (DataW H)} {ps : List MemPlace}
    (h : DataW.TrodVars enc P W sp [n1, n2, n3, n4, n5, n6, n7, n8] gs ps) : ∃ g1 g2 g3 g4 g5 g6 g7 g8, gs = [g1, g2, g3, g4, g5, g6, g7, g8] := by
  obtain ⟨g1, r1, q1, e1, h1⟩ := trodVars_cons' h
  obtain ⟨g2, r2, q2, e2, h2⟩ := trodVars_cons' h1
  obtain ⟨g3, r3, q3, e3, h3⟩ := trodVars_cons' h2
  obtain ⟨g4, r4, q4, e4, h4⟩ := trodVars_cons' h3
  obtain ⟨g5, r5, q5, e5, h5⟩ := trodVars_cons' h4
  obtain ⟨g6, r6, q6, e6, h6⟩ := trodVars_cons' h5
  obtain ⟨g7, r7, q7, e7, h7⟩ := trodVars_cons' h6
  obtain ⟨g8, r8, q8, e8, h8⟩ := trodVars_cons' h7
  have e9 := trodVars_nil' h8
  exact ⟨g1, g2, g3, g4, g5, g6, g7, g8, by rw [e1, e2, e3, e4, e5, e6, e7, e8, e9]⟩
end Go.Proofs.YteokhhepnoelhaaGreatDoor

set_option linter.unusedVariables false
set_option linter.unusedSimpArgs false
namespace Go.Proofs.YteokhhepnoelhaaGreatDoor
open Go.RowKit Go.Lib Go.Shelf

theorem int_of_reads {w : World} {n : String} {g : Nat} {t : TypeId} {z : Int} (hg : Tryz.prog.globalNamed n = some g) (ht : (Tryz.prog.globals[g]?).map (·.type) = some t) (hu : Tryz.prog.underlying t = some (.int .i64))
    (h : VarReads Tryz.prog w n (.lit (.int .i64 z))) : w.cell? ⟨g, 0, none⟩ = some (.int .i64 z) := by
  obtain ⟨g', t', cs, fuel, p, hg', hty, hvar, hd⟩ := h
  obtain rfl := Option.some.inj (hg.symm.trans hg')
  obtain rfl := Option.some.inj (ht.symm.trans hty)
  obtain ⟨m, q0, r0, _⟩ := DataW.trod_int hu hd
  simp at r0
  obtain ⟨rfl, rfl⟩ := r0
  rw [World.var?_cell hg hvar 0, ← Array.getElem?_toList, q0]
  rfl

theorem thr_of_laid {w : World} (h1 : VarReads Tryz.prog w "loop.example/pub-g03241/pub/bigall.leafSize" (.lit (.int .i64 8)))
    (h2 : VarReads Tryz.prog w "loop.example/pub-g03241/pub/bigall.divRecursiveThreshold" (.lit (.int .i64 40)))
    (h3 : VarReads Tryz.prog w "loop.example/pub-g03241/pub/bigall.basicSqrThreshold" (.lit (.int .i64 12)))
    (h4 : VarReads Tryz.prog w "loop.example/pub-g03241/pub/bigall.karatsubaSqrThreshold" (.lit (.int .i64 80)))
    (h5 : VarReads Tryz.prog w "loop.example/pub-g03241/pub/bigall.karatsubaThreshold" (.lit (.int .i64 40))) : Thr w :=
  ⟨int_of_reads (by kernel_rfl) (by kernel_rfl) Tryz.underlying3 h1, int_of_reads (by kernel_rfl) (by kernel_rfl) Tryz.underlying3 h2, int_of_reads (by kernel_rfl) (by kernel_rfl) Tryz.underlying3 h3,
    int_of_reads (by kernel_rfl) (by kernel_rfl) Tryz.underlying3 h4, int_of_reads (by kernel_rfl) (by kernel_rfl) Tryz.underlying3 h5⟩

theorem case_of_laid {w : World} (h : VarReads Tryz.prog w "unicode.CaseRanges" Go.Pinned.caseRanges) : CaseVar 1 caseA w := by
  rw [Pinned.caseRanges_eq] at h
  exact caseVar_of_reads (ρ := Tryz.lays159_ren) { Tryz.lays159 with } Tryz.lays159.t206 ⟨by kernel_rfl, by kernel_rfl, by kernel_rfl, by kernel_rfl, by kernel_rfl, by kernel_rfl⟩ h
theorem u8_of_laid {w : World} (h : VarReads Tryz.prog w "unicode/utf8.first" Go.Pinned.utf8First) (h' : VarReads Tryz.prog w "unicode/utf8.acceptRanges" acceptData) : Lib.Utf8Tabs 6 7 w := by
  rw [Pinned.utf8First_eq] at h
  exact utf8Tabs_of_reads (ρ := Tryz.lays159_ren) { Tryz.lays159 with } ⟨by kernel_rfl, by kernel_rfl, by kernel_rfl, by kernel_rfl, by kernel_rfl, by kernel_rfl, by kernel_rfl⟩ h h'

theorem Tryz.star : "*" ++ "errors.errorString" = "*errors.errorString" := by decide
theorem Tryz.row147 (u : TypeId) (h : Tryz.prog.typeName? 3 u = some "*errors.errorString") : u = 147 :=
  typeName_ptr_named (nm := "errors.errorString") (by rw [Tryz.star]; kernel_rfl) (by kernel_rfl) (by decide) u (by rw [Tryz.star]; exact h)

theorem sentinel {n : String} {text : List UInt8} {r : List (String × DataW Unit)} {w : World} {g : Nat} (h : laidMet Tryz.prog ((n, .iface "*errors.errorString" (.ptr (.agg [.lit (.string text)]))) :: r) w)
    (hg : Tryz.prog.globalNamed n = some g) (ht : (Tryz.prog.globals[g]?).map (·.type) = some 55) : ∃ a : Addr, w.var? Tryz.prog n = some #[.iface 147 (.pointer (some a))] := by
  obtain ⟨a, s, hv, _, _, _⟩ := laid_sentinel h hg ht Tryz.underlying55 Tryz.row147 Tryz.underlying147 Tryz.underlying149 rfl rfl Tryz.underlying9 (by kernel_rfl) (by kernel_rfl)
  exact ⟨a, hv⟩

/-- All that the walks ask of the world. -/
theorem vars_of_laid {w : World} {x0 x1 x2 : String × DataW Unit} {r : List (String × DataW Unit)} {t1 t2 t3 : List UInt8}
    (h : laidMet Tryz.prog (x0 :: x1 :: x2 :: ("unicode/utf8.acceptRanges", acceptData) :: ("strconv.ErrRange", .iface "*errors.errorString" (.ptr (.agg [.lit (.string t1)]))) :: ("strconv.ErrSyntax", .iface "*errors.errorString" (.ptr (.agg [.lit (.string t2)]))) :: ("io.EOF", .iface "*errors.errorString" (.ptr (.agg [.lit (.string t3)]))) :: r) w)
    (hC : CtxAt w 0 0 100000 (-100000) 1967 ⟨#[]⟩) (h1 : VarReads Tryz.prog w "unicode.CaseRanges" Go.Pinned.caseRanges) (h2 : VarReads Tryz.prog w "unicode/utf8.first" Go.Pinned.utf8First) :
    ∃ a pS pR, Vars w a 147 147 pS pR ⟨#[]⟩ := by
  obtain ⟨aR, hR⟩ := sentinel h.tail.tail.tail.tail (g := 3) (by kernel_rfl) (by kernel_rfl)
  obtain ⟨aS, hS⟩ := sentinel h.tail.tail.tail.tail.tail (g := 2) (by kernel_rfl) (by kernel_rfl)
  obtain ⟨a, hE⟩ := sentinel h.tail.tail.tail.tail.tail.tail (g := 5) (by kernel_rfl) (by kernel_rfl)
  refine ⟨a, _, _, hC, case_of_laid h1, u8_of_laid h2 (Lib.laidMet.reads h (.tail _ (.tail _ (.tail _ (.head _))))), ?_, hS, hR⟩
  exact World.var?_cell (n := "io.EOF") (by kernel_rfl) hE 0
end Go.Proofs.YteokhhepnoelhaaGreatDoor

set_option linter.unusedVariables false
set_option linter.unusedSimpArgs false
namespace Go.Proofs.YteokhhepnoelhaaGreatDoor
open Go.RowKit Go.ChangeShapes Go.WideShapes Go.ChangeAt

set_option maxRecDepth 100000 in
set_option maxHeartbeats 4000000 in
theorem parse_lifted (os : Os) (started : os.Started) (H : Type) (enc : TypeId × Value → H) :
    ReturnsInHanded {} Tryz.checked os 3 .any (fun w args => (Rows.fnParseSpec.pre enc Tryz.prog Tryz.f3 [] false w args ∧ laidMetH Tryz.prog Rows.fnParseRow.laid w) ∧ sizedMet enc Tryz.prog Tryz.f3 (OpenSpec.ofChange Rows.fnParseSpec) false w args)
      (Rows.fnParseSpec.post enc Tryz.prog Tryz.f3 false true false false) := by
  refine returnsInHanded_of_change_and (C := Tryz.checked) (X := fun w _ => laidMetH Tryz.prog Rows.fnParseRow.laid w) (fun _ _ _ hh h => h.of_heap hh) Tryz.own started (by as_aux_lemma => kernel_rfl) Tryz.func3
    (ChangeSpec.witness_shaped (enc := enc) (C := Tryz.checked) (os := os) (X := fun w _ => laidMetH Tryz.prog Rows.fnParseRow.laid w) false (World.laidAll Tryz.prog os Rows.fnParseRow.laid) #[.string ⟨#[]⟩] 8 (World.laidAll_os _ _ _)
      (World.shaped_of_ZipB (by as_aux_lemma => kernel_rfl) (by as_aux_lemma => kernel_rfl)) (by as_aux_lemma => kernel_rfl) (by as_aux_lemma => kernel_rfl) (by as_aux_lemma => kernel_rfl)
      (by rw [MakeChecks.laidMetH_plain _ _ _ (by as_aux_lemma => kernel_rfl)]; exact laidMet_laidAll _ (by as_aux_lemma => kernel_rfl) (by as_aux_lemma => kernel_rfl))) ?_
  intro W base args ds gs before hval0 hW _ _ hL _
  have hval : ∀ (j : Nat) t v, Tryz.f3.params[j]? = some t → args[j]? = some v → Value.okWide Tryz.prog W .any base t v := hval0
  have hW' := hW
  obtain ⟨p, q, hA0, hV, rfl, _, _⟩ := hW
  have hA : DataW.TrodAll enc Tryz.prog W 0 (fun _ => true) true Tryz.f3.params.toList args.toList ds p := hA0
  rw [Tryz.params3] at hA hval
  obtain ⟨v0, d0, rfl, rfl, h0⟩ := trodAll_one hA
  obtain ⟨s, rfl, rfl, rfl, ws⟩ := Go.ChangeMaps.open_string Tryz.underlying9 (hval 0 9 v0 rfl rfl) h0
  rw [MakeChecks.laidMetH_plain _ _ _ (by as_aux_lemma => kernel_rfl)] at hL
  have hC : CtxAt W 0 0 100000 (-100000) 1967 ⟨#[]⟩ := ctx_of_reads (Lib.laidMet.reads hL (n := "loop.example/pub-g03241/pub/apd.BaseContext") (d := Rows.laid_loop_example_pub_g03241_pub_apd_BaseContext) (by simp [Rows.fnParseRow]))
  have hT : Thr W := thr_of_laid
    (Lib.laidMet.reads hL (d := Rows.laid_loop_example_pub_g03241_pub_bigall_leafSize) (by simp [Rows.fnParseRow]))
    (Lib.laidMet.reads hL (d := Rows.laid_loop_example_pub_g03241_pub_bigall_divRecursiveThreshold) (by simp [Rows.fnParseRow]))
    (Lib.laidMet.reads hL (d := Rows.laid_loop_example_pub_g03241_pub_bigall_basicSqrThreshold) (by simp [Rows.fnParseRow]))
    (Lib.laidMet.reads hL (d := Rows.laid_loop_example_pub_g03241_pub_bigall_karatsubaSqrThreshold) (by simp [Rows.fnParseRow]))
    (Lib.laidMet.reads hL (d := Rows.laid_loop_example_pub_g03241_pub_bigall_karatsubaThreshold) (by simp [Rows.fnParseRow]))
  obtain ⟨a, pS, pR, hVs⟩ := vars_of_laid (w := W) (by
      have hac : (Rows.laid_unicode_utf8_acceptRanges : DataW Unit) = Lib.acceptData := by as_aux_lemma => kernel_rfl
      have hL2 := hL
      unfold Rows.fnParseRow at hL2
      simp only [hac] at hL2
      exact hL2) hC
    (Lib.laidMet.reads hL (d := Rows.laid_unicode_CaseRanges) (by simp [Rows.fnParseRow]))
    (Lib.laidMet.reads hL (d := Rows.laid_unicode_utf8_first) (by simp [Rows.fnParseRow]))
  refine (parse_law_all s.data.toList W hVs hT).mono fun e W' ⟨he, hb⟩ => ?_
  subst he
  obtain ⟨g1, g2, g3, g4, g5, g6, g7, g8, rfl⟩ := trodVars_eight hV
  exact ⟨_, rfl, _, _, _, [], [], q, hW', trodAll_mk1 (shut_bool Tryz.underlying4 _), trodAll_mk1 (Go.ChangeMaps.shut_string Tryz.underlying9 ws), hb.trodVars Tryz.laidOut (by as_aux_lemma => kernel_rfl) hV, hb.frame _, fun h => by cases h⟩

end Go.Proofs.YteokhhepnoelhaaGreatDoor

set_option linter.unusedVariables false
set_option linter.unusedSimpArgs false
namespace Go.Proofs.YteokhhepnoelhaaGreatDoor

set_option maxHeartbeats 4000000 in
theorem parse_closed : joinedFacts Tryz.prog 3 Tryz.f3 Rows.fnParseSpec Rows.fnParseRow = true := by
  unfold joinedFacts
  simp only [Bool.and_eq_true]
  repeat' apply And.intro
  all_goals as_aux_lemma => kernel_rfl
end Go.Proofs.YteokhhepnoelhaaGreatDoor

set_option linter.unusedVariables false
set_option linter.unusedSimpArgs false
namespace Go.Proofs.YteokhhepnoelhaaGreatDoor
open Go.RowKit Go.ChangeShapes Go.WideShapes Go.ChangeAt

set_option maxHeartbeats 4000000 in
theorem parse_holds : Rows.FnParseSaid :=
  OpenClaim.holds_of_wide 3 Tryz.f3 rfl rfl rfl rfl rfl rfl rfl ⟨rfl, rfl, rfl, rfl, rfl⟩ rfl rfl rfl rfl rfl (by as_aux_lemma => kernel_rfl) Tryz.func3 parse_closed
    (of_decide_eq_true (by as_aux_lemma => kernel_rfl)) (by unfold Func.isWrapper; first | (rw [if_pos (by decide +kernel)]; kernel_rfl) | (rw [if_neg (by decide +kernel)]; exact ⟨rfl, rfl⟩))
    (fun os started H enc _ => parse_lifted os started H enc)

set_option maxHeartbeats 4000000 in
theorem parse_card_holds : Rows.FnParseCardSaid :=
  Claim7.holds_tied_plain_at .later [] _ true _ true parse_holds (fun _ h => by cases h) (by as_aux_lemma => kernel_rfl) (fun _ h => by cases h) fnParse_row_tie rfl ⟨rfl, rfl⟩ (by as_aux_lemma => kernel_rfl) rfl
    (fun f fn hf hfn => by
      obtain rfl : f = 3 := Option.some.inj ((show Tryz.prog.funcNamed "loop.example/pub-g03241/laws.FnParse" = some 3 by as_aux_lemma => kernel_rfl).symm.trans hf) |>.symm
      obtain rfl : fn = Tryz.f3 := (Option.some.inj (Tryz.func3.symm.trans hfn)).symm
      exact ⟨by as_aux_lemma => kernel_rfl, fun j t ht => by
        rw [Tryz.params3] at ht
        have hm : t ∈ [9] := by simpa using Array.mem_of_getElem? ht
        have hall : ([9].all fun u => !Tryz.prog.wantsStandIn u) = true := by as_aux_lemma => kernel_rfl
        exact (show Tryz.prog.wantsStandIn t = false by simpa using List.all_eq_true.1 hall t hm)⟩)
    (by as_aux_lemma => kernel_rfl)
#print axioms parse_card_holds
end Go.Proofs.YteokhhepnoelhaaGreatDoor
