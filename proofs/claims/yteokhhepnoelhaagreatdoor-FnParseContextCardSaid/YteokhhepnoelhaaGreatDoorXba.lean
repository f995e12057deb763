/-
  Plain arithmetic of long division: one word of the quotient.
-/
import Derived.Test.YteokhhepnoelhaaGreatDoorXay
import Derived.Test.YteokhhepnoelhaaGreatDoorXam
import Derived.Test.YteokhhepnoelhaaGreatDoorXah
import Derived.RegionTactic
import Derived.Deep.RegionWith
import Derived.Test.YteokhhepnoelhaaGreatDoorXaj
import Derived.Test.YteokhhepnoelhaaGreatDoorXaz
import Derived.Deep.Cut
import Derived.Deep.DeepCutAuto
import Derived.Deep.CutBlock
import Derived.StillTailTactics
set_option linter.unusedVariables false
set_option linter.unusedSimpArgs false
namespace Go.Proofs.YteokhhepnoelhaaGreatDoor
def RowIs (cs : Array Value) (L : List Nat) : Prop := ∀ (i x : Nat), L[i]? = some x → cs[i]? = some (.int .u64 (x : Int))
theorem RowIs.put {cs : Array Value} {L S : List Nat} (h : RowIs cs L) (k : Nat) (hk : k + S.length ≤ L.length) (hs : L.length ≤ cs.size) : RowIs (putV cs k (u64s S)) (L.take k ++ S ++ L.drop (k + S.length)) := by
 intro i x hi;rw [List.append_assoc] at hi;by_cases h1 : i < k;· rw [putV_get_out _ _ _ _ (.inl h1)];rw [List.getElem?_append_left (by rw [List.length_take]; omega), List.getElem?_take, if_pos h1] at hi;exact h i x hi
 · have hlt : (L.take k).length = k := by rw [List.length_take]; omega
   rw [List.getElem?_append_right (by omega), hlt] at hi;by_cases h2 : i - k < S.length;· rw [List.getElem?_append_left h2] at hi;have := putV_get_in (u64s S) cs k (i - k) (by rw [u64s_length]; omega) (by rw [u64s_length]; omega);rw [show k + (i - k) = i by omega, u64s_get, hi] at this;exact this
   · rw [List.getElem?_append_right (by omega), List.getElem?_drop] at hi;rw [putV_get_out _ _ _ _ (.inr (by rw [u64s_length]; omega))];refine h i x ?_;rw [← hi]; congr 1; omega
theorem nval_take_drop (xs : List Nat) (k : Nat) (h : k ≤ xs.length) : nval xs = nval (xs.take k) + WB ^ k * nval (xs.drop k) := by
 have e : xs = xs.take k ++ xs.drop k := (List.take_append_drop k xs).symm;conv => lhs; rw [e]
 rw [nval_append, List.length_take, Nat.min_eq_left h]
theorem sub_right {U V qh B S1 n1 : Nat} (hV : 0 < V) (h1 : U / V ≤ qh) (h2 : qh ≤ U / V + 1) (hs : S1 + qh * V = U) : qh = U / V ∧ S1 = U % V := by
 have hd := Nat.div_add_mod U V;have hq : qh ≤ U / V := by rw [Nat.le_div_iff_mul_le hV]; omega
 have e : qh = U / V := by omega
 refine ⟨e, ?_⟩;rw [← e, Nat.mul_comm V] at hd;omega
theorem sub_wrong {U V qh B S1 : Nat} (hV : 0 < V) (h1 : U / V ≤ qh) (h2 : qh ≤ U / V + 1) (hs : S1 + qh * V = U + B) (hB : S1 < B) : qh = U / V + 1 ∧ S1 + V = U % V + B := by
 have hd := Nat.div_add_mod U V;have hq : U / V < qh := by rw [Nat.div_lt_iff_lt_mul hV]; omega
 have e : qh = U / V + 1 := by omega
 refine ⟨e, ?_⟩;rw [e, Nat.add_mul, Nat.one_mul, Nat.mul_comm (U / V)] at hs;omega
theorem seg_right {seg qv : List Nat} {U V qh n : Nat} (hV : 0 < V) (hl : seg.length = n + 1) (hq : qv.length = n + 1) (hb : ∀ x ∈ seg, x < WB) (hbq : ∀ x ∈ qv, x < WB) (hU : nval seg = U) (hQ : nval qv = V * qh) (h1 : U / V ≤ qh) (h2 : qh ≤ U / V + 1)
 (hc : sbC seg qv 0 = 0) : qh = U / V ∧ nval (sbZ seg qv 0) = U % V := by
 have h := nval_sb seg qv 0 (by omega) (by omega) hb hbq;rw [hc, Nat.mul_zero, Nat.add_zero, Nat.add_zero, hU, hQ, Nat.mul_comm V] at h;exact sub_right (B := 0) (n1 := 0) hV h1 h2 h
theorem seg_wrong {seg qv vs : List Nat} {U V qh n : Nat} (hV : 0 < V) (hl : seg.length = n + 1) (hq : qv.length = n + 1) (hvl : vs.length = n) (hb : ∀ x ∈ seg, x < WB) (hbq : ∀ x ∈ qv, x < WB) (hbv : ∀ x ∈ vs, x < WB) (hU : nval seg = U) (hQ : nval qv = V * qh) (hVv : nval vs = V) (h1 : U / V ≤ qh) (h2 : qh ≤ U / V + 1)
 (hc : sbC seg qv 0 ≠ 0) : ∃ s, (sbZ seg qv 0)[n]? = some s ∧ s < WB ∧ adC ((sbZ seg qv 0).take n) vs 0 ≤ 1 ∧ qh = U / V + 1 ∧ s + adC ((sbZ seg qv 0).take n) vs 0 = WB ∧ nval (adZ ((sbZ seg qv 0).take n) vs 0 ++ [0]) = U % V := by
 have hle := sbC_le seg qv 0 (by omega);have hc1 : sbC seg qv 0 = 1 := by omega
 have h := nval_sb seg qv 0 (by omega) (by omega) hb hbq;have hzl := sbZ_length seg qv 0 (by omega);have hzb := sbZ_lt seg qv 0;rw [hc1, Nat.mul_one, Nat.add_zero, hU, hQ, Nat.mul_comm V, hl] at h;have hlt := nval_lt _ hzb;rw [hzl, hl] at hlt;obtain ⟨e1, e2⟩ := sub_wrong hV h1 h2 h hlt;generalize sbZ seg qv 0 = S1 at *
 obtain ⟨s, hs⟩ : ∃ s, S1[n]? = some s := ⟨_, List.getElem?_eq_getElem (by omega)⟩
 have hsb : s < WB := hzb s (List.mem_of_getElem? hs);have ht : (S1.take n).length = n := by rw [List.length_take]; omega
 have hS1 : nval S1 = nval (S1.take n) + WB ^ n * s := by
  rw [nval_take_drop S1 n (by omega), nval_drop S1 n s hs, List.drop_eq_nil_of_le (by omega)];simp [nval]
 have htb : ∀ x ∈ S1.take n, x < WB := fun x hx => hzb x (List.mem_of_mem_take hx)
 have hcl := adC_le (S1.take n) vs 0 (by omega) htb hbv;have ha := nval_ad (S1.take n) vs 0 (by omega);rw [ht, Nat.add_zero, hVv] at ha;have hal := nval_lt _ (adZ_lt (S1.take n) vs 0);rw [adZ_length _ _ _ (by omega), ht] at hal;have hmod := Nat.mod_lt U hV;have hVlt := nval_lt vs hbv;rw [hVv, hvl] at hVlt;have hpow : WB ^ (n + 1) = WB ^ n * WB := Nat.pow_succ _ _;have hsum : nval (adZ (S1.take n) vs 0) + WB ^ n * (s + adC (S1.take n) vs 0) = U % V + WB ^ n * WB := by
  rw [Nat.mul_add]; omega
 have hge : WB ≤ s + adC (S1.take n) vs 0 := by
  refine Nat.le_of_not_lt (fun hh => ?_);have := Nat.mul_le_mul_left (WB ^ n) (show s + adC (S1.take n) vs 0 + 1 ≤ WB from hh);rw [Nat.mul_add (WB ^ n) _ 1, Nat.mul_one] at this;omega
 have heq : s + adC (S1.take n) vs 0 = WB := by omega
 refine ⟨s, hs, hsb, hcl, e1, heq, ?_⟩;rw [nval_append, adZ_length _ _ _ (by omega), ht];rw [heq] at hsum;simp only [nval];omega
theorem top_split {xs : List Nat} {n a b : Nat} (hn : 2 ≤ n) (hl : xs.length = n) (h1 : xs[n - 1]? = some a) (h0 : xs[n - 2]? = some b) : nval xs = (a * WB + b) * WB ^ (n - 2) + nval (xs.take (n - 2)) := by
 rw [nval_take_drop xs (n - 2) (by omega), nval_drop xs (n - 2) b h0, show n - 2 + 1 = n - 1 by omega, nval_drop xs (n - 1) a h1, List.drop_eq_nil_of_le (by omega)];simp only [nval, Nat.mul_zero, Nat.add_zero];rw [Nat.mul_comm (WB ^ _), Nat.mul_comm WB, Nat.add_comm b]; omega
theorem top_split3 {xs : List Nat} {n a b c : Nat} (hn : 2 ≤ n) (hl : xs.length = n + 1) (h2 : xs[n]? = some a) (h1 : xs[n - 1]? = some b) (h0 : xs[n - 2]? = some c) : nval xs = ((a * WB + b) * WB + c) * WB ^ (n - 2) + nval (xs.take (n - 2)) := by
 rw [nval_take_drop xs (n - 2) (by omega), nval_drop xs (n - 2) c h0, show n - 2 + 1 = n - 1 by omega, nval_drop xs (n - 1) b h1, show n - 1 + 1 = n by omega, nval_drop xs n a h2, List.drop_eq_nil_of_le (by omega)];simp only [nval, Nat.mul_zero, Nat.add_zero];rw [Nat.mul_comm (WB ^ _), Nat.mul_comm WB a, Nat.mul_comm WB (b + a * WB), Nat.add_comm b, Nat.add_comm c]; omega
def GoodQ (U V qh : Nat) : Prop := U / V ≤ qh ∧ qh ≤ U / V + 1 ∧ qh < WB
theorem good_top {seg vs : List Nat} {n U V u2 u1 u0 v1 v0 : Nat} (hn : 2 ≤ n) (hl : seg.length = n + 1) (hvl : vs.length = n) (hb : ∀ x ∈ seg, x < WB) (hbv : ∀ x ∈ vs, x < WB)
 (a2 : seg[n]? = some u2) (a1 : seg[n - 1]? = some u1) (a0 : seg[n - 2]? = some u0) (c1 : vs[n - 1]? = some v1) (c0 : vs[n - 2]? = some v0) (hU : nval seg = U) (hVv : nval vs = V) (hUV : U < V * WB) (hv1 : WB ≤ 2 * v1) :
 u2 ≤ v1 ∧ 0 < V ∧ (u2 = v1 → GoodQ U V (WB - 1)) ∧ (u2 < v1 → GoodQ U V (((u2 * WB + u1) * WB + u0) / (v1 * WB + v0)) ∧ (u2 * WB + u1) / v1 < WB) := by
 have hW := WB_pos;have hW2 : 2 ≤ WB := by decide
 have sU := top_split3 hn hl a2 a1 a0;have sV := top_split hn hvl c1 c0;have bU := nval_lt (seg.take (n - 2)) (fun x hx => hb x (List.mem_of_mem_take hx));have bV := nval_lt (vs.take (n - 2)) (fun x hx => hbv x (List.mem_of_mem_take hx));rw [List.length_take, Nat.min_eq_left (by omega)] at bU bV;rw [hU] at sU;rw [hVv] at sV;have hP : 0 < WB ^ (n - 2) := Nat.pow_pos hW;have w0 := hbv v0 (List.mem_of_getElem? c0);have w1 := hbv v1 (List.mem_of_getElem? c1);have x1 := hb u1 (List.mem_of_getElem? a1);have x0 := hb u0 (List.mem_of_getElem? a0);generalize WB ^ (n - 2) = P at *
 generalize nval (seg.take (n - 2)) = ur at *
 generalize nval (vs.take (n - 2)) = vr at *
 have hV0 : v1 * (WB * P) ≤ V := by
  rw [sV, Nat.add_mul, Nat.mul_assoc]; omega
 have hV1 : V < (v1 + 1) * (WB * P) := by
  have h1 : (v1 * WB + v0 + 1) * P ≤ (v1 * WB + WB) * P := Nat.mul_le_mul_right _ (by omega);have h2 : (v1 * WB + WB) * P = (v1 + 1) * (WB * P) := by rw [← Nat.succ_mul, Nat.mul_assoc]
  rw [Nat.add_mul (v1 * WB + v0) 1, Nat.one_mul] at h1;omega
 have hU0 : u2 * WB * (WB * P) ≤ U := by
  rw [sU, Nat.add_mul, Nat.add_mul (u2 * WB), Nat.add_mul, ← Nat.mul_assoc]; omega
 have hWP : 0 < WB * P := Nat.mul_pos hW hP;have hle : u2 ≤ v1 := by
  have h1 : u2 * WB * (WB * P) < (v1 + 1) * (WB * P) * WB := Nat.lt_of_le_of_lt hU0 (Nat.lt_trans hUV ((Nat.mul_lt_mul_right hW).2 hV1));have h2 : (v1 + 1) * (WB * P) * WB = (v1 + 1) * WB * (WB * P) := by rw [Nat.mul_assoc, Nat.mul_comm (WB * P), ← Nat.mul_assoc]
  rw [h2] at h1;have h3 := Nat.lt_of_mul_lt_mul_right h1;have h4 := Nat.lt_of_mul_lt_mul_right h3;omega
 have hVp : 0 < V := Nat.lt_of_lt_of_le (Nat.mul_pos (by omega) hWP) hV0;refine ⟨hle, hVp, fun e => ?_, fun e => ?_⟩;· subst e;obtain ⟨g1, g2⟩ := guess_top (a := u2) (V := V) (U := U) (P := WB * P) hv1 hV1 hV0 hU0 hUV hWP;exact ⟨g1, g2, by omega⟩
 · have hlt : (u2 * WB + u1) / v1 < WB := by
    rw [Nat.div_lt_iff_lt_mul (by omega)];have : (u2 + 1) * WB ≤ v1 * WB := Nat.mul_le_mul_right _ e;rw [Nat.add_mul, Nat.one_mul] at this;rw [Nat.mul_comm WB];omega
   have hu3 : ((u2 * WB + u1) * WB + u0) / (v1 * WB + v0) < WB := by
    rw [Nat.div_lt_iff_lt_mul (by have := Nat.mul_pos (show 0 < v1 by omega) hW; omega)];have h1 : (u2 * WB + u1 + 1) ≤ v1 * WB := by
     have : (u2 + 1) * WB ≤ v1 * WB := Nat.mul_le_mul_right _ e;rw [Nat.add_mul, Nat.one_mul] at this;omega
    have h2 := Nat.mul_le_mul_right WB h1;rw [Nat.add_mul, Nat.one_mul] at h2;rw [Nat.mul_add, Nat.mul_comm WB (v1 * WB)];omega
   obtain ⟨g1, g2⟩ := guess_good (v2 := v1 * WB + v0) (u3 := (u2 * WB + u1) * WB + u0) (P := P) (vr := vr) (ur := ur) hP (by have := Nat.mul_le_mul_right WB (show 1 ≤ v1 by omega); omega) bV bU hu3;rw [← sU, ← sV] at g1 g2;exact ⟨⟨g1, g2, hu3⟩, hlt⟩
theorem div_step {L L0 S : List Nat} {k n N V q Q : Nat} (hk : k + n + 1 ≤ N) (hL : L.length = N) (hS : S.length = n + 1) (hb : ∀ x ∈ L, x < WB) (hVn : V ≤ WB ^ n)
 (hR : nval (L.drop (k + 1)) < V) (hSv : nval S = nval ((L.drop k).take (n + 1)) % V) (hq : q = nval ((L.drop k).take (n + 1)) / V) (h0 : nval L0 = nval L + V * WB ^ (k + 1) * Q) :
 nval ((L.drop k).take (n + 1)) < V * WB ∧ nval ((L.take k ++ S ++ L.drop (k + (n + 1))).drop k) < V ∧ nval L0 = nval (L.take k ++ S ++ L.drop (k + (n + 1))) + V * WB ^ k * (q + WB * Q) := by
 have hV : 0 < V := by omega
 obtain ⟨x, hx⟩ : ∃ x, L[k]? = some x := ⟨_, List.getElem?_eq_getElem (by omega)⟩
 have hxb := hb x (List.mem_of_getElem? hx);have hdk := nval_drop L k x hx;have hU1 : nval (L.drop k) = x + WB * nval (L.drop (k + 1)) := by rw [hdk]; rfl
 have hsp : nval (L.drop (k + 1)) = nval ((L.drop (k + 1)).take n) + WB ^ n * nval (L.drop (k + (n + 1))) := by
  have := nval_take_drop (L.drop (k + 1)) n (by rw [List.length_drop]; omega);rw [List.drop_drop, show k + 1 + n = k + (n + 1) by omega] at this;exact this
 have hz : nval (L.drop (k + (n + 1))) = 0 := by
  refine Nat.eq_zero_of_not_pos (fun hp => ?_);have := Nat.mul_le_mul_left (WB ^ n) hp;rw [Nat.mul_one] at this;omega
 have hU2 : nval (L.drop k) = nval ((L.drop k).take (n + 1)) := by
  have := nval_take_drop (L.drop k) (n + 1) (by rw [List.length_drop]; omega);rw [List.drop_drop, hz, Nat.mul_zero, Nat.add_zero] at this;exact this
 generalize hUd : nval ((L.drop k).take (n + 1)) = U at *
 have hUV : U < V * WB := by
  rw [← hU2, hU1];have := Nat.mul_le_mul_right WB (show nval (L.drop (k + 1)) + 1 ≤ V from hR);rw [Nat.add_mul, Nat.one_mul, Nat.mul_comm (nval _)] at this;omega
 have htk : (L.take k).length = k := by rw [List.length_take]; omega
 have hd : (L.take k ++ S ++ L.drop (k + (n + 1))).drop k = S ++ L.drop (k + (n + 1)) := by
  rw [List.append_assoc, List.drop_append_of_le_length (by omega), List.drop_eq_nil_of_le (by omega), List.nil_append]
 have hSd : nval (S ++ L.drop (k + (n + 1))) = U % V := by rw [nval_append, hz, Nat.mul_zero, Nat.add_zero, hSv]
 refine ⟨hUV, by rw [hd, hSd]; exact Nat.mod_lt _ hV, ?_⟩;have hL' : nval (L.take k ++ S ++ L.drop (k + (n + 1))) = nval (L.take k) + WB ^ k * (U % V) := by
  rw [List.append_assoc, nval_append, htk, hSd]
 have hLe : nval L = nval (L.take k) + WB ^ k * U := by rw [nval_take_drop L k (by omega), hU2]
 rw [h0, hL', hLe, hq];have hdm := Nat.div_add_mod U V;have e1 : WB ^ k * U = WB ^ k * (V * (U / V)) + WB ^ k * (U % V) := by rw [← Nat.mul_add, hdm]
 have e2 : V * WB ^ (k + 1) * Q = V * WB ^ k * (WB * Q) := by rw [Nat.pow_succ, ← Nat.mul_assoc, Nat.mul_assoc, Nat.mul_assoc]
 have e3 : V * WB ^ k * (U / V + WB * Q) = V * WB ^ k * (U / V) + V * WB ^ k * (WB * Q) := Nat.mul_add _ _ _;have e4 : WB ^ k * (V * (U / V)) = V * WB ^ k * (U / V) := by rw [← Nat.mul_assoc, Nat.mul_comm (WB ^ k)]
 omega
end Go.Proofs.YteokhhepnoelhaaGreatDoor
namespace Go.Proofs.YteokhhepnoelhaaGreatDoor
open Go.RowKit
theorem pow_split {s : Nat} (hs : s ≤ 64) : 2 ^ (64 - s) * 2 ^ s = WB := by rw [← Nat.pow_add, show 64 - s + s = 64 by omega]; rfl
theorem shl_low {x s : Nat} (hs : s ≤ 64) : x * 2 ^ s % WB = x % 2 ^ (64 - s) * 2 ^ s := by rw [← pow_split hs, Nat.mul_mod_mul_right]
theorem shl_high {x c s : Nat} (hs : s ≤ 64) (hc : c < 2 ^ s) : (x * 2 ^ s + c) / WB = x / 2 ^ (64 - s) ∧ (x * 2 ^ s + c) % WB = x * 2 ^ s % WB + c := by
 have hp : 0 < 2 ^ s := Nat.pow_pos (by omega);have e := Nat.div_add_mod x (2 ^ (64 - s));have hl := Nat.mod_lt x (show 2 ^ (64 - s) > 0 from Nat.pow_pos (by omega));have hlow := shl_low (x := x) hs;have hlt : x % 2 ^ (64 - s) * 2 ^ s + c < WB := by
  rw [← pow_split hs];have := Nat.mul_le_mul_right (2 ^ s) hl;rw [Nat.succ_mul] at this;omega
 have e2 : x * 2 ^ s + c = WB * (x / 2 ^ (64 - s)) + (x % 2 ^ (64 - s) * 2 ^ s + c) := by
  rw [← pow_split hs, ← Nat.add_assoc, Nat.mul_right_comm, ← Nat.add_mul, e]
 constructor;· rw [e2, Nat.mul_add_div WB_pos, Nat.div_eq_of_lt hlt, Nat.add_zero]
 · rw [e2, Nat.mul_add_mod, Nat.mod_eq_of_lt hlt, hlow]
theorem shl_carry (xs : List Nat) (s : Nat) (hs : s ≤ 64) (hb : ∀ x ∈ xs, x < WB) : mulAddC xs (2 ^ s) 0 < 2 ^ s := by
 suffices H : ∀ (k : Nat) (c : Nat), c < 2 ^ s → ∀ xs : List Nat, xs.length = k → (∀ x ∈ xs, x < WB) → mulAddC xs (2 ^ s) c < 2 ^ s from H _ 0 (Nat.pow_pos (by omega)) xs rfl hb
 intro k;induction k with
 | zero => intro c hc xs h _; rw [List.eq_nil_of_length_eq_zero h]; exact hc
 | succ k ih =>
  intro c hc xs h hb;match xs, h with
  | x :: xs, h =>
   refine ih _ ?_ xs (by simpa using h) (fun u hu => hb u (by simp [hu]));rw [(shl_high hs hc).1, Nat.div_lt_iff_lt_mul (Nat.pow_pos (by omega)), Nat.mul_comm, pow_split hs];exact hb x (by simp)
theorem shl_carry_at (xs : List Nat) (s j x : Nat) (hs : s ≤ 64) (hb : ∀ x ∈ xs, x < WB) (hx : xs[j]? = some x) : mulAddC (xs.take (j + 1)) (2 ^ s) 0 = x / 2 ^ (64 - s) := by
 rw [List.take_add_one, hx, show (some x).toList = [x] from rfl, mulAddC_snoc, (shl_high hs (shl_carry _ s hs (fun u hu => hb u (List.mem_of_mem_take hu)))).1]
theorem mulAddZ_get (xs : List Nat) (y : Nat) : ∀ (c j x : Nat), xs[j]? = some x → (mulAddZ xs y c)[j]? = some ((x * y + mulAddC (xs.take j) y c) % WB) := by
 induction xs with
 | nil => intro c j x h; simp at h
 | cons u xs ih =>
  intro c j x h;cases j with
  | zero => simp at h; subst h; simp [mulAddZ, mulAddC]
  | succ j => simp at h; simp [mulAddZ, mulAddC, ih _ _ _ h]
theorem shl_or (x q s : Nat) (hs1 : 1 ≤ s) (hs : s ≤ 63) (hx : x < WB) (hq : q < 2 ^ s) : bits .or .u64 (IntKind.u64.wrap ((x : Int) * 2 ^ s)) (q : Int) = (((x * 2 ^ s + q) % WB : Nat) : Int) := by
 have h1 : IntKind.u64.wrap ((x : Int) * 2 ^ s) = ((x * 2 ^ s % WB : Nat) : Int) := by
  rw [u64_wrap, show ((x : Int) * 2 ^ s) = ((x * 2 ^ s : Nat) : Int) by simp, WB_eq]; omega
 have h2 := Nat.mod_lt (x * 2 ^ s) WB_pos;rw [h1, (shl_high (by omega) hq).2, shl_low (by omega)];rw [shl_low (by omega), WB_eq] at h2;exact or_shift _ q s hq h2 (by omega)
set_option maxRecDepth 100000 in
set_option maxHeartbeats 1000000 in
theorem lshVU_g (gz cz gx cx s n : Nat) (csz : Array Value) (xs : List Nat) (w : World) (hz : w.heap[gz]? = some (.cells csz 105 (0, 0))) (hn : xs.length = n) (hzn : n ≤ csz.size)
 (hx : ∀ (j x : Nat), xs[j]? = some x → w.cell? ⟨gx, j, none⟩ = some (.int .u64 (x : Int))) (hne : gx ≠ gz) (hb : ∀ x ∈ xs, x < WB) (hs1 : 1 ≤ s) (hs : s ≤ 63) (hl : 1 ≤ n) (hl2 : n ≤ 1000) :
 Calls Tryz.prog 279 #[.slice (some ⟨gz, 0, none⟩) n cz, .slice (some ⟨gx, 0, none⟩) n cx, .int .u64 (s : Int)] w
  fun e w' => e = .returned (.int .u64 (mulAddC xs (2 ^ s) 0 : Int)) ∧ QuoAt w' gz csz (mulAddZ xs (2 ^ s) 0) 0 ∧ Fr (fun i => i = gz) w w' := by
 have e1 : bits .and .u64 (s : Int) 63 = (s : Int) := and63 s hs;have e2 : bits .and .u64 (64 - (s : Int)) 63 = (64 - (s : Int)) := by
  have := and63 (64 - s) (by omega);rw [show ((64 - s : Nat) : Int) = 64 - (s : Int) by omega] at this;exact this
 have s0 : ((s : Int) == 0) = false := beq_eq_false_iff_ne.2 (by omega);have n0 : ((n : Int) == 0) = false := beq_eq_false_iff_ne.2 (by omega);obtain ⟨m, hm⟩ : ∃ m, n = m + 1 := ⟨n - 1, by omega⟩
 obtain ⟨xt, hxt⟩ : ∃ x, xs[m]? = some x := ⟨_, List.getElem?_eq_getElem (by omega)⟩
 have ct := hx m xt hxt;have e3 : IntKind.i64.wrap ((n : Int) - 1) = (m : Int) := by rw [IntWalk.i64_in _ (by omega)]; omega
 have e4 : (n : Int) - 1 = (m : Int) := by omega
 have mn : m < n := by omega
 have HZ := hid hz; have HX := hid hx; have HB := hid hb; have HXT := hid hxt; have HM := hid hm; have HN := hid hn;clear hz hx hb hxt hn hm;go_enter Tryz.func279, Tryz.ntmps279;go_wp2_with fail;have hq0 : QuoAt w gz csz (mulAddZ xs (2 ^ s) 0) n := ⟨csz, HZ.out, rfl, fun j z hj hh => by
  have h1 := (List.getElem?_eq_some_iff.1 hh).1;rw [mulAddZ_length] at h1;have := HN.out;omega, fun j _ => rfl⟩
 have HQ0 := hid hq0;clear hq0 e3 e4 ct;go_loopw [8] (fun i wr => ∃ k : Nat, k < n ∧ i = .int .i64 (k : Int) ∧ Hid (QuoAt wr gz csz (mulAddZ xs (2 ^ s) 0) (k + 1)) ∧ Hid (Fr (fun i => i = gz) w wr)) (fun i _ => (intOf i).toNat);case atStart => exact ⟨m, mn, rfl, by rw [← HM.out]; exact HQ0, hid (Fr.refl _ _)⟩
 case round =>
  obtain ⟨k, hk, rfl, hQ, hFr⟩ := hrel;obtain ⟨x, hxk⟩ : ∃ x, xs[k]? = some x := ⟨_, List.getElem?_eq_getElem (by rw [HN.out]; exact hk)⟩
  have hcx : wr.drew.cell? ⟨gx, k, none⟩ = some (.int .u64 (x : Int)) := hFr.out.cell' (HX.out k x hxk) hne;have hxb := HB.out x (List.mem_of_getElem? hxk);have hget := mulAddZ_get xs (2 ^ s) 0 k x hxk;obtain ⟨cs, q1, q2, q3, q4⟩ := hQ.out;obtain ⟨v0, hv0⟩ : ∃ u, cs[k]? = some u := ⟨_, Array.getElem?_eq_getElem (by omega)⟩
  have k0 : wr.drew.cell? ⟨gz, k, none⟩ = some v0 := by
   have : wr.cell? ⟨gz, k, none⟩ = some v0 := by rw [blk_cell q1]; exact hv0
   exact this
  have f0 : wr.drew.frozen? ⟨gz, k, none⟩ = false := blk_frozen (w := wr) q1 k;by_cases h0 : k = 0
  · subst h0;rw [List.take_zero, show mulAddC [] (2 ^ s) 0 = 0 from rfl, Nat.add_zero] at hget;have hw : IntKind.u64.wrap ((x : Int) * 2 ^ s) = ((x * 2 ^ s % WB : Nat) : Int) := by
     rw [u64_wrap, show ((x : Int) * 2 ^ s) = ((x * 2 ^ s : Nat) : Int) by simp, WB_eq]; omega
    have hst := hid (hQ.out.step hget (by omega));have hc : mulAddC xs (2 ^ s) 0 = xt / 2 ^ (64 - s) := by
     have := shl_carry_at xs s m xt (by omega) HB.out HXT.out;rw [List.take_of_length_le (by rw [HN.out, HM.out]; exact Nat.le_refl _)] at this;exact this
    have HC := hid hc;have HFR := hid (Fr.setCell (S := fun i => i = gz) (p := ⟨gz, 0, none⟩) hFr.out (fun _ => rfl) (.int .u64 ((x * 2 ^ s % WB : Nat) : Int)));clear hget hc q1 q2 q3 q4 hv0 hxk;generalize x * 2 ^ s % WB = v at *
    have hcx : wr.cell? ⟨gx, 0, none⟩ = some (.int .u64 (x : Int)) := hcx;have k0 : wr.cell? ⟨gz, 0, none⟩ = some v0 := k0;have f0 : wr.frozen? ⟨gz, 0, none⟩ = false := f0;go_wp2_with fail;go_ret;exact ⟨by rw [HC.out]; simp, hst.out, HFR.out⟩
  · obtain ⟨j, rfl⟩ : ∃ j, k = j + 1 := ⟨k - 1, by omega⟩
    obtain ⟨y, hyk⟩ : ∃ x, xs[j]? = some x := ⟨_, List.getElem?_eq_getElem (by rw [HN.out]; omega)⟩
    have hcy : wr.drew.cell? ⟨gx, j, none⟩ = some (.int .u64 (y : Int)) := hFr.out.cell' (HX.out j y hyk) hne;rw [shl_carry_at xs s j y (by omega) HB.out hyk] at hget;have hyb := HB.out y (List.mem_of_getElem? hyk);have hor := shl_or x (y / 2 ^ (64 - s)) s hs1 hs hxb (by rw [Nat.div_lt_iff_lt_mul (Nat.pow_pos (by omega)), Nat.mul_comm, pow_split (by omega)]; exact hyb);have hdv : ((y / 2 ^ (64 - s) : Nat) : Int) = (y : Int) / 2 ^ (64 - s) := by simp
    rw [hdv] at hor;have hst := hid (hQ.out.step hget (by omega));have HFR := hid (Fr.setCell (S := fun i => i = gz) (p := ⟨gz, j + 1, none⟩) hFr.out (fun _ => rfl) (.int .u64 (((x * 2 ^ s + y / 2 ^ (64 - s)) % WB : Nat) : Int)));clear hget q1 q2 q3 q4 hv0 hxk hyk hdv;generalize (x * 2 ^ s + y / 2 ^ (64 - s)) % WB = v at *
    have j1 : ((j + 1 : Nat) : Int) - 1 = (j : Int) := by omega
    go_wp2_with fail;go_region
    all_goals
     go_wp2_with fail;go_roundw;case rel => exact ⟨j, by omega, by go_num, hst, hid (HFR.out.drew)⟩
     case measure => simp [intOf]
theorem lshVU (gz cz gx cx s n : Nat) (csz : Array Value) (xs : List Nat) (w : World) (hz : w.heap[gz]? = some (.cells csz 105 (0, 0))) (hn : xs.length = n) (hzn : n ≤ csz.size)
 (hx : ∀ (j x : Nat), xs[j]? = some x → w.cell? ⟨gx, j, none⟩ = some (.int .u64 (x : Int))) (hne : gx ≠ gz) (hb : ∀ x ∈ xs, x < WB) (hs1 : 1 ≤ s) (hs : s ≤ 63) (hl : 1 ≤ n) (hl2 : n ≤ 1000) :
 Calls Tryz.prog 245 #[.slice (some ⟨gz, 0, none⟩) n cz, .slice (some ⟨gx, 0, none⟩) n cx, .int .u64 (s : Int)] w
  fun e w' => e = .returned (.int .u64 (mulAddC xs (2 ^ s) 0 : Int)) ∧ QuoAt w' gz csz (mulAddZ xs (2 ^ s) 0) 0 ∧ Fr (fun i => i = gz) w w' := by
 have H := hid (lshVU_g gz cz gx cx s n csz xs w hz hn hzn hx hne hb hs1 hs hl hl2);clear hz hx hb hn;go_enter Tryz.func245, Tryz.ntmps245;go_wp2_with fail;refine H.out.mono ?_;rintro e w1 ⟨rfl, h1, h2⟩;have N := hid (And.intro h1 h2);clear h1 h2;go_wp2_with fail;go_ret;exact ⟨rfl, N.out⟩
def shrZ : List Nat → Nat → List Nat
 | [], _ => []
 | [x], s => [x / 2 ^ s]
 | x :: y :: r, s => (x / 2 ^ s + y % 2 ^ s * 2 ^ (64 - s)) :: shrZ (y :: r) s
theorem shrZ_length (xs : List Nat) (s : Nat) : (shrZ xs s).length = xs.length := by
 match xs with
 | [] => rfl
 | [x] => rfl
 | x :: y :: r => simp only [shrZ, List.length_cons]; have := shrZ_length (y :: r) s; simp at this; omega
theorem shrZ_get (xs : List Nat) (s j x y : Nat) (hx : xs[j]? = some x) (hy : xs[j + 1]? = some y) : (shrZ xs s)[j]? = some (x / 2 ^ s + y % 2 ^ s * 2 ^ (64 - s)) := by
 induction j generalizing xs with
 | zero =>
  match xs, hx, hy with
  | x' :: y' :: r, hx, hy => simp at hx hy; subst hx hy; rfl
 | succ j ih =>
  match xs, hx, hy with
  | x' :: y' :: r, hx, hy =>
   rw [shrZ, List.getElem?_cons_succ];exact ih (y' :: r) (by simpa using hx) (by simpa using hy)
theorem shrZ_last (xs : List Nat) (s j x : Nat) (hx : xs[j]? = some x) (hl : xs.length = j + 1) : (shrZ xs s)[j]? = some (x / 2 ^ s) := by
 induction j generalizing xs with
 | zero =>
  match xs, hx, hl with
  | [x'], hx, _ => simp at hx; subst hx; rfl
 | succ j ih =>
  match xs, hx, hl with
  | x' :: y' :: r, hx, hl =>
   rw [shrZ, List.getElem?_cons_succ];exact ih (y' :: r) (by simpa using hx) (by simpa using hl)
theorem shr_word {x q s : Nat} (hs : s ≤ 64) (hx : x < WB) (hq : q < 2 ^ s) : x / 2 ^ s + q * 2 ^ (64 - s) < WB := by
 have h1 : x / 2 ^ s < 2 ^ (64 - s) := by rw [Nat.div_lt_iff_lt_mul (Nat.pow_pos (by omega)), pow_split hs]; exact hx
 have h2 : (q + 1) * 2 ^ (64 - s) ≤ 2 ^ s * 2 ^ (64 - s) := Nat.mul_le_mul_right _ hq;rw [Nat.mul_comm (2 ^ s), pow_split hs, Nat.add_mul, Nat.one_mul] at h2;omega
theorem shrZ_lt (xs : List Nat) (s : Nat) (hs : s ≤ 64) (hb : ∀ x ∈ xs, x < WB) : ∀ u ∈ shrZ xs s, u < WB := by
 match xs with
 | [] => intro u hu; cases hu
 | [x] =>
  intro u hu;rw [shrZ, List.mem_singleton] at hu;subst hu;exact Nat.lt_of_le_of_lt (Nat.div_le_self _ _) (hb x (by simp))
 | x :: y :: r =>
  intro u hu;rw [shrZ] at hu;rcases List.mem_cons.1 hu with rfl | hu;· exact shr_word hs (hb x (by simp)) (Nat.mod_lt _ (Nat.pow_pos (by omega)))
  · exact shrZ_lt (y :: r) s hs (fun v hv => hb v (by simp [hv])) u hu
theorem nval_shrZ (xs : List Nat) (s : Nat) (hs : s ≤ 64) : nval (shrZ xs s) = nval xs / 2 ^ s := by
 have hp : 0 < 2 ^ s := Nat.pow_pos (by omega);match xs with
 | [] => simp [shrZ, nval]
 | [x] => simp [shrZ, nval]
 | x :: y :: r =>
  rw [shrZ, nval, nval_shrZ (y :: r) s hs];have e1 : nval (x :: y :: r) = x + WB * nval (y :: r) := rfl;have e2 : nval (y :: r) = y + WB * nval r := rfl;have h3 : nval (y :: r) % 2 ^ s = y % 2 ^ s := by
   rw [e2, ← pow_split hs, Nat.mul_comm (2 ^ (64 - s)), Nat.mul_assoc, Nat.add_mul_mod_self_left]
  rw [e1, ← h3];have h4 := Nat.div_add_mod (nval (y :: r)) (2 ^ s);generalize nval (y :: r) = N at *
  have h5 : x + WB * N = x + (N % 2 ^ s * 2 ^ (64 - s) + WB * (N / 2 ^ s)) * 2 ^ s := by
   rw [Nat.add_mul, Nat.mul_assoc (N % 2 ^ s), pow_split hs, Nat.mul_assoc, Nat.mul_comm (N % 2 ^ s), ← Nat.mul_add, Nat.mul_comm (N / 2 ^ s), Nat.add_comm (N % 2 ^ s), h4]
  rw [h5, Nat.add_mul_div_right _ _ hp];omega
def ShrAt (w : World) (g : Nat) (csz : Array Value) (zs : List Nat) (k : Nat) : Prop :=
 ∃ cs, w.heap[g]? = some (.cells cs 105 (0, 0)) ∧ cs.size = csz.size ∧ (∀ (j z : Nat), j < k → zs[j]? = some z → cs[j]? = some (.int .u64 (z : Int))) ∧ ∀ j, k ≤ j → cs[j]? = csz[j]?
theorem ShrAt.step {w : World} {g : Nat} {csz : Array Value} {zs : List Nat} {k z : Nat} (h : ShrAt w g csz zs k) (hz : zs[k]? = some z) (hk : k < csz.size) :
 ShrAt (w.setCell ⟨g, k, none⟩ (.int .u64 (z : Int))) g csz zs (k + 1) := by
 obtain ⟨cs, h1, h2, h3, h4⟩ := h;refine ⟨_, blk_set h1 k _, by rw [Array.size_setIfInBounds]; exact h2, fun j u hj hu => ?_, fun j hj => ?_⟩
 · rw [Array.getElem?_setIfInBounds];by_cases e : k = j
   · subst e;rw [hz] at hu;cases hu;rw [if_pos rfl, if_pos (by omega)]
   · rw [if_neg e];exact h3 j u (by omega) hu
 · rw [Array.getElem?_setIfInBounds, if_neg (by omega)];exact h4 j (by omega)
theorem shr_or (x y s : Nat) (hs1 : 1 ≤ s) (hs : s ≤ 63) (hx : x < WB) (hy : y < WB) : bits .or .u64 ((x : Int) / 2 ^ s) (IntKind.u64.wrap ((y : Int) * 2 ^ (64 - s))) = ((x / 2 ^ s + y % 2 ^ s * 2 ^ (64 - s) : Nat) : Int) := by
 have h1 : IntKind.u64.wrap ((y : Int) * 2 ^ (64 - s)) = ((y % 2 ^ s * 2 ^ (64 - s) : Nat) : Int) := by
  have e : y % 2 ^ s * 2 ^ (64 - s) = y * 2 ^ (64 - s) % WB := by
   rw [shl_low (by omega), show 64 - (64 - s) = s by omega]
  rw [e, u64_wrap, show ((y : Int) * 2 ^ (64 - s)) = ((y * 2 ^ (64 - s) : Nat) : Int) by simp, WB_eq]; omega
 have h2 : x / 2 ^ s < 2 ^ (64 - s) := by rw [Nat.div_lt_iff_lt_mul (Nat.pow_pos (by omega)), pow_split (by omega)]; exact hx
 have h3 := shr_word (x := 0) (q := y % 2 ^ s) (s := s) (by omega) WB_pos (Nat.mod_lt _ (Nat.pow_pos (by omega)));rw [Nat.zero_div, Nat.zero_add, WB_eq] at h3;have h4 := or_shift (y % 2 ^ s) (x / 2 ^ s) (64 - s) h2 h3 (by omega);rw [h1, show ((x : Int) / 2 ^ s) = ((x / 2 ^ s : Nat) : Int) by simp, Nat.add_comm (x / 2 ^ s), ← h4];have c1 : x / 2 ^ s < 18446744073709551616 := Nat.lt_of_le_of_lt (Nat.div_le_self _ _) hx;rw [u64_or_nat _ _ c1 h3, u64_or_nat _ _ h3 c1, Nat.or_comm]
set_option maxRecDepth 100000 in
set_option maxHeartbeats 1000000 in
theorem rshVU_g (g c c' s n : Nat) (csz : Array Value) (xs : List Nat) (w : World) (hz : w.heap[g]? = some (.cells csz 105 (0, 0))) (hn : xs.length = n) (hzn : n ≤ csz.size)
 (hx : ∀ (j x : Nat), xs[j]? = some x → csz[j]? = some (.int .u64 (x : Int))) (hb : ∀ x ∈ xs, x < WB) (hs1 : 1 ≤ s) (hs : s ≤ 63) (hl : 1 ≤ n) (hl2 : n ≤ 1000) :
 Calls Tryz.prog 282 #[.slice (some ⟨g, 0, none⟩) n c, .slice (some ⟨g, 0, none⟩) n c', .int .u64 (s : Int)] w
  fun e w' => (∃ r, e = .returned r) ∧ ShrAt w' g csz (shrZ xs s) n ∧ Fr (fun i => i = g) w w' := by
 have e1 : bits .and .u64 (s : Int) 63 = (s : Int) := and63 s hs;have e2 : bits .and .u64 (64 - (s : Int)) 63 = (64 - (s : Int)) := by
  have := and63 (64 - s) (by omega);rw [show ((64 - s : Nat) : Int) = 64 - (s : Int) by omega] at this;exact this
 have s0 : ((s : Int) == 0) = false := beq_eq_false_iff_ne.2 (by omega);have n0 : ((n : Int) == 0) = false := beq_eq_false_iff_ne.2 (by omega);obtain ⟨x0, hx0⟩ : ∃ x, xs[0]? = some x := ⟨_, List.getElem?_eq_getElem (by omega)⟩
 have c0 : w.cell? ⟨g, 0, none⟩ = some (.int .u64 (x0 : Int)) := by rw [blk_cell hz]; exact hx 0 x0 hx0
 have HZ := hid hz; have HX := hid hx; have HB := hid hb; have HN := hid hn;clear hz hx hb hn hx0;go_enter Tryz.func282, Tryz.ntmps282;go_wp2_with fail;have hq0 : ShrAt w g csz (shrZ xs s) 0 := ⟨csz, HZ.out, rfl, fun j z hj hh => by omega, fun j _ => rfl⟩
 have HQ0 := hid hq0;clear hq0 c0;go_loopw [8] (fun i wr => ∃ k : Nat, k + 1 ≤ n ∧ i = .int .i64 ((k + 1 : Nat) : Int) ∧ Hid (ShrAt wr g csz (shrZ xs s) k) ∧ Hid (Fr (fun i => i = g) w wr)) (fun i _ => n - (intOf i).toNat);case atStart => exact ⟨0, hl, rfl, HQ0, hid (Fr.refl _ _)⟩
 case round =>
  obtain ⟨k, hk, rfl, hQ, hFr⟩ := hrel;obtain ⟨x, hxk⟩ : ∃ x, xs[k]? = some x := ⟨_, List.getElem?_eq_getElem (by rw [HN.out]; omega)⟩
  have hxb := HB.out x (List.mem_of_getElem? hxk);obtain ⟨cs, q1, q2, q3, q4⟩ := hQ.out;have hck : cs[k]? = some (.int .u64 (x : Int)) := by rw [q4 k (Nat.le_refl _)]; exact HX.out k x hxk
  have hcx : wr.cell? ⟨g, k, none⟩ = some (.int .u64 (x : Int)) := by rw [blk_cell q1]; exact hck
  have f0 : wr.frozen? ⟨g, k, none⟩ = false := blk_frozen (w := wr) q1 k;by_cases h0 : k + 1 = n
  · subst h0;have hget := shrZ_last xs s k x hxk HN.out;have hdv : ((x / 2 ^ s : Nat) : Int) = (x : Int) / 2 ^ s := by simp
    have hst := hQ.out.step hget (by omega);have hfr := Fr.setCell (S := fun i => i = g) (p := ⟨g, k, none⟩) hFr.out (fun _ => rfl) (.int .u64 ((x / 2 ^ s : Nat) : Int));rw [hdv] at hst hfr;have HST := hid hst; have HFR := hid hfr;have j1 : ((k + 1 : Nat) : Int) - 1 = (k : Int) := by omega
    clear hget q1 q2 q3 q4 hxk hst hfr hdv hck;go_wp2_with fail;go_ret;exact ⟨⟨_, rfl⟩, HST.out, HFR.out⟩
  · obtain ⟨y, hyk⟩ : ∃ x, xs[k + 1]? = some x := ⟨_, List.getElem?_eq_getElem (by rw [HN.out]; omega)⟩
    have hcy : wr.drew.cell? ⟨g, k + 1, none⟩ = some (.int .u64 (y : Int)) := by
     have : wr.cell? ⟨g, k + 1, none⟩ = some (.int .u64 (y : Int)) := by rw [blk_cell q1, q4 (k + 1) (by omega)]; exact HX.out (k + 1) y hyk
     exact this
    have hcx : wr.drew.cell? ⟨g, k, none⟩ = some (.int .u64 (x : Int)) := hcx;have f0 : wr.drew.frozen? ⟨g, k, none⟩ = false := f0;have hget := shrZ_get xs s k x y hxk hyk;have hor := shr_or x y s hs1 hs hxb (HB.out y (List.mem_of_getElem? hyk));have hst := hid (hQ.out.step hget (by omega));have HFR := hid (Fr.setCell (S := fun i => i = g) (p := ⟨g, k, none⟩) hFr.out (fun _ => rfl) (.int .u64 ((x / 2 ^ s + y % 2 ^ s * 2 ^ (64 - s) : Nat) : Int)));have hlt : k + 1 < n := by omega
    have j1 : ((k + 1 : Nat) : Int) - 1 = (k : Int) := by omega
    clear hget q1 q2 q3 q4 hxk hyk hck h0;generalize x / 2 ^ s + y % 2 ^ s * 2 ^ (64 - s) = v at *
    go_wp2_with fail;go_region
    all_goals
     go_wp2_with fail;go_roundw;case rel => exact ⟨k + 1, by omega, by go_num, hst, hid (HFR.out.drew)⟩
     case measure => simp [intOf]; omega
theorem rshVU (g c c' s n : Nat) (csz : Array Value) (xs : List Nat) (w : World) (hz : w.heap[g]? = some (.cells csz 105 (0, 0))) (hn : xs.length = n) (hzn : n ≤ csz.size)
 (hx : ∀ (j x : Nat), xs[j]? = some x → csz[j]? = some (.int .u64 (x : Int))) (hb : ∀ x ∈ xs, x < WB) (hs1 : 1 ≤ s) (hs : s ≤ 63) (hl : 1 ≤ n) (hl2 : n ≤ 1000) :
 Calls Tryz.prog 249 #[.slice (some ⟨g, 0, none⟩) n c, .slice (some ⟨g, 0, none⟩) n c', .int .u64 (s : Int)] w
  fun e w' => (∃ r, e = .returned r) ∧ ShrAt w' g csz (shrZ xs s) n ∧ Fr (fun i => i = g) w w' := by
 have H := hid (rshVU_g g c c' s n csz xs w hz hn hzn hx hb hs1 hs hl hl2);clear hz hx hb hn;go_enter Tryz.func249, Tryz.ntmps249;go_wp2_with fail;refine H.out.mono ?_;rintro e w1 ⟨⟨r, rfl⟩, h1, h2⟩;have N := hid (And.intro h1 h2);clear h1 h2;go_wp2_with fail;go_ret;exact ⟨⟨_, rfl⟩, N.out⟩
def GrowRes (w : World) (n : Nat) (e : Ending) (w' : World) : Prop :=
 ∃ g cap cs, e = .returned (.slice (some ⟨g, 0, none⟩) 0 cap) ∧ w'.heap[g]? = some (.cells cs 105 (0, 0)) ∧ n ≤ cap ∧ cs.size = cap ∧ w.heap.size ≤ g ∧ Fr NoB w w'
theorem next_small (n : Nat) (hn : 1 ≤ n) (hn' : n ≤ 8) : Builtin.nextslicecap n 0 = n := by
 have h : (List.range 9).all (fun n => n = 0 || Builtin.nextslicecap n 0 = n) = true := by kernel_rfl
 have := List.all_eq_true.1 h n (List.mem_range.2 (by omega));simp at this;omega
theorem cut_cap (n : Nat) (e : TypeId) (t : Nat) : n ≤ (Question.appendCap n 0 e).cut t := by
 show n ≤ n + t % (2 ^ 63 - n);omega
set_option maxRecDepth 100000 in
set_option maxHeartbeats 1000000 in
theorem grow277 (n : Nat) (hn : 1 ≤ n) (hn' : n ≤ 8) (w : World) : Calls Tryz.prog 277 #[.slice none 0 0, .int .i64 (n : Int)] w (GrowRes w n) := by
 have hb : Tryz.t105.bytes = 8 := by kernel_rfl
 have hx := next_small n hn hn';have h1 : ¬ ((n : Int) ≤ 0) := by omega
 have h2 : ((281474976710656 : Int) < (n : Int) * 8) = False := eq_false (by omega);have h3 : (281474976710656 < n * 8) = False := eq_false (by omega);have hc := cut_cap n 105 (w.tape w.drawn (.appendCap n 0 105));have HC := hid hc;clear hc;go_enter Tryz.func277, Tryz.ntmps277;go_wp2_with fail;go_ret;refine ⟨_, _, _, rfl, blk_new _ _, HC.out, ?_, Nat.le_refl _, ((Fr.refl _ _).alloc _).drew⟩;have := HC.out;generalize (Question.appendCap n 0 105).cut (w.tape w.drawn (.appendCap n 0 105)) = c at *
 rw [Array.size_append, size_zeroCells, size_zeroCells];simp;omega
def NatTmp (w : World) (S n : Nat) (e : Ending) (w' : World) : Prop :=
 ∃ g cap cs, e = .returned (.slice (some ⟨g, 0, none⟩) n cap) ∧ w'.heap[g]? = some (.cells cs 105 (0, 0)) ∧ n ≤ cap ∧ n ≤ cs.size ∧ w.heap.size ≤ g ∧ Fr NoB w w'
set_option maxRecDepth 100000 in
set_option maxHeartbeats 1000000 in
theorem stkNat4 (S n : Nat) (hn : 1 ≤ n) (hn' : n ≤ 4) (w : World) (hS : w.heap[S]? = some (.cells #[.pointer none] 260 (0, 0))) : Calls Tryz.prog 244 #[.pointer (some ⟨S, 0, none⟩), .int .i64 (n : Int)] w (NatTmp w S n) := by
 have s0 : w.cell? ⟨S, 0, none⟩ = some (.pointer none) := by rw [blk_cell hS]; rfl
 have h1 : ((n : Int) ≤ 4) = True := eq_true (by omega);have h2 : ((0 : Int) < (n : Int)) = True := eq_true (by omega);have HG := hid (grow277 n hn (by omega) w);clear hS;go_enter Tryz.func244, Tryz.ntmps244;go_wp2_with fail;refine HG.out.mono ?_;rintro e w1 ⟨g, cap, cs, rfl, hg, r1, r2, r3, r4⟩;obtain ⟨v0, hv0⟩ : ∃ u, cs[0]? = some u := ⟨_, Array.getElem?_eq_getElem (by omega)⟩
 have k0 : w1.cell? ⟨g, 0, none⟩ = some v0 := by rw [blk_cell hg]; exact hv0
 have f0 : w1.frozen? ⟨g, 0, none⟩ = false := blk_frozen hg 0;have hset := blk_set hg 0 (.int .u64 11259375);have N := hid (show NatTmp w S n (.returned (.slice (some ⟨g, 0, none⟩) n cap)) (w1.setCell ⟨g, 0, none⟩ (.int .u64 11259375)) from
  ⟨g, cap, _, rfl, hset, r1, by simp; omega, r3, Fr.setCell (p := ⟨g, 0, none⟩) r4 (fun h => by have h : g < _ := h; omega) _⟩)
 clear hset hg r3 r4 hv0;go_wp2_with fail;go_ret;exact N.out
theorem stkSave (S : Nat) (w : World) (hS : w.heap[S]? = some (.cells #[.pointer none] 260 (0, 0))) : Calls Tryz.prog 242 #[.pointer (some ⟨S, 0, none⟩)] w fun e w' => e = .returned (.int .i64 0) ∧ w = w' := by
 have s0 : w.cell? ⟨S, 0, none⟩ = some (.pointer none) := by rw [blk_cell hS]; rfl
 clear hS;go_enter Tryz.func242, Tryz.ntmps242;go_wp2_with fail;go_ret;exact ⟨rfl, rfl⟩
set_option maxRecDepth 100000 in
set_option maxHeartbeats 1000000 in
theorem grow300 (n : Nat) (hn : 1 ≤ n) (hn' : n ≤ 8) (w : World) : Calls Tryz.prog 300 #[.slice none 0 0, .int .i64 (n : Int)] w (GrowRes w n) := by
 have hb : Tryz.t105.bytes = 8 := by kernel_rfl
 have hx := next_small n hn hn';have h1 : ¬ ((n : Int) ≤ 0) := by omega
 have h2 : ((281474976710656 : Int) < (n : Int) * 8) = False := eq_false (by omega);have h3 : (281474976710656 < n * 8) = False := eq_false (by omega);have hc := cut_cap n 105 (w.tape w.drawn (.appendCap n 0 105));have HC := hid hc;clear hc;go_enter Tryz.func300, Tryz.ntmps300;go_wp2_with fail;go_ret;refine ⟨_, _, _, rfl, blk_new _ _, HC.out, ?_, Nat.le_refl _, ((Fr.refl _ _).alloc _).drew⟩;have := HC.out;generalize (Question.appendCap n 0 105).cut (w.tape w.drawn (.appendCap n 0 105)) = c at *
 rw [Array.size_append, size_zeroCells, size_zeroCells];simp;omega
structure StkT (w : World) (S T : Nat) : Prop where
 s : w.heap[S]? = some (.cells #[.pointer (some ⟨T, 0, none⟩)] 260 (0, 0))
 t : ∃ g n c, w.heap[T]? = some (.cells #[.slice (some ⟨g, 0, none⟩) n c] 297 (0, 0)) ∧ n ≤ c
def NatTmp5 (w : World) (S : Nat) (e : Ending) (w' : World) : Prop :=
 ∃ g T cs, e = .returned (.slice (some ⟨g, 0, none⟩) 5 5) ∧ w'.heap[g]? = some (.cells cs 105 (0, 0)) ∧ 5 ≤ cs.size ∧ w.heap.size ≤ g ∧ w.heap.size ≤ T ∧ g ≠ T ∧ StkT w' S T ∧ Fr (fun i => i = S) w w'
set_option maxRecDepth 100000 in
set_option maxHeartbeats 1000000 in
theorem siNat5 (T : Nat) (w : World) (hT : w.heap[T]? = some (.cells #[.slice none 0 0] 297 (0, 0))) :
 Calls Tryz.prog 278 #[.pointer (some ⟨T, 0, none⟩), .int .i64 5] w fun e w' => ∃ g c cs, e = .returned (.slice (some ⟨g, 0, none⟩) 5 5) ∧ w'.heap[g]? = some (.cells cs 105 (0, 0)) ∧ 5 ≤ cs.size ∧ w.heap.size ≤ g ∧ w'.heap[T]? = some (.cells #[.slice (some ⟨g, 0, none⟩) 8 c] 297 (0, 0)) ∧ 8 ≤ c ∧ Fr (fun i => i = T) w w' := by
 have t0 : w.cell? ⟨T, 0, none⟩ = some (.slice none 0 0) := by rw [blk_cell hT]; rfl
 have HT := hid hT;have e1 : bits .andNot .i64 8 3 = 8 := by kernel_rfl
 have HTL := hid (blk_lt hT);clear hT;go_enter Tryz.func278, Tryz.ntmps278;go_wp2_with fail;refine (grow300 8 (by omega) (by omega) _).mono ?_;rintro e w1 ⟨g, cap, cs, rfl, hg, r1, r2, r3, r4⟩;have hgT : g ≠ T := by have := HTL.out; omega
 obtain ⟨v0, hv0⟩ : ∃ u, cs[0]? = some u := ⟨_, Array.getElem?_eq_getElem (by omega)⟩
 have hT1 := r4.blk HT.out (fun h => h);have t1 : w1.cell? ⟨T, 0, none⟩ = some (.slice none 0 0) := by rw [blk_cell hT1]; rfl
 have u1 : w1.frozen? ⟨T, 0, none⟩ = false := blk_frozen hT1 0;have hT2 := blk_set hT1 0 (.slice (some ⟨g, 0, none⟩) 0 cap);have t2 : (w1.setCell ⟨T, 0, none⟩ (.slice (some ⟨g, 0, none⟩) 0 cap)).cell? ⟨T, 0, none⟩ = some (.slice (some ⟨g, 0, none⟩) 0 cap) := by rw [blk_cell hT2]; rfl
 have u2 : (w1.setCell ⟨T, 0, none⟩ (.slice (some ⟨g, 0, none⟩) 0 cap)).frozen? ⟨T, 0, none⟩ = false := blk_frozen hT2 0;have hT3 := blk_set hT2 0 (.slice (some ⟨g, 0, none⟩) 8 cap);have t3 : ((w1.setCell ⟨T, 0, none⟩ (.slice (some ⟨g, 0, none⟩) 0 cap)).setCell ⟨T, 0, none⟩ (.slice (some ⟨g, 0, none⟩) 8 cap)).cell? ⟨T, 0, none⟩ = some (.slice (some ⟨g, 0, none⟩) 8 cap) := by rw [blk_cell hT3]; rfl
 have hg3 := blk_far (blk_far hg (p := ⟨T, 0, none⟩) hgT (.slice (some ⟨g, 0, none⟩) 0 cap)) (p := ⟨T, 0, none⟩) hgT (.slice (some ⟨g, 0, none⟩) 8 cap);have g3 : ((w1.setCell ⟨T, 0, none⟩ (.slice (some ⟨g, 0, none⟩) 0 cap)).setCell ⟨T, 0, none⟩ (.slice (some ⟨g, 0, none⟩) 8 cap)).cell? ⟨g, 0, none⟩ = some v0 := by rw [blk_cell hg3]; exact hv0
 have q3 : ((w1.setCell ⟨T, 0, none⟩ (.slice (some ⟨g, 0, none⟩) 0 cap)).setCell ⟨T, 0, none⟩ (.slice (some ⟨g, 0, none⟩) 8 cap)).frozen? ⟨g, 0, none⟩ = false := blk_frozen hg3 0;have hg4 := blk_set hg3 0 (.int .u64 1043915);have hT4 := blk_far hT3 (p := ⟨g, 0, none⟩) (Ne.symm hgT) (.int .u64 1043915);have hF : Fr (fun i => i = T) w (((w1.setCell ⟨T, 0, none⟩ (.slice (some ⟨g, 0, none⟩) 0 cap)).setCell ⟨T, 0, none⟩ (.slice (some ⟨g, 0, none⟩) 8 cap)).setCell ⟨g, 0, none⟩ (.int .u64 1043915)) :=
  Fr.setCell (p := ⟨g, 0, none⟩) (Fr.setCell (S := fun i => i = T) (p := ⟨T, 0, none⟩) (Fr.setCell (S := fun i => i = T) (p := ⟨T, 0, none⟩) (r4.mono (fun _ _ h => h.elim)) (fun _ => rfl) _) (fun _ => rfl) _) (fun h => by have h : g < _ := h; omega) _
 have c8 : (8 : Int) ≤ (cap : Int) := by omega
 have c0 : (0 : Int) ≤ (cap : Int) := by omega
 have N := hid (show ∃ g' c cs', Ending.returned (.slice (some ⟨g, 0, none⟩) 5 5) = .returned (.slice (some ⟨g', 0, none⟩) 5 5) ∧ (((w1.setCell ⟨T, 0, none⟩ (.slice (some ⟨g, 0, none⟩) 0 cap)).setCell ⟨T, 0, none⟩ (.slice (some ⟨g, 0, none⟩) 8 cap)).setCell ⟨g, 0, none⟩ (.int .u64 1043915)).heap[g']? = some (.cells cs' 105 (0, 0)) ∧ 5 ≤ cs'.size ∧ w.heap.size ≤ g' ∧ (((w1.setCell ⟨T, 0, none⟩ (.slice (some ⟨g, 0, none⟩) 0 cap)).setCell ⟨T, 0, none⟩ (.slice (some ⟨g, 0, none⟩) 8 cap)).setCell ⟨g, 0, none⟩ (.int .u64 1043915)).heap[T]? = some (.cells #[.slice (some ⟨g', 0, none⟩) 8 c] 297 (0, 0)) ∧ 8 ≤ c ∧ Fr (fun i => i = T) w (((w1.setCell ⟨T, 0, none⟩ (.slice (some ⟨g, 0, none⟩) 0 cap)).setCell ⟨T, 0, none⟩ (.slice (some ⟨g, 0, none⟩) 8 cap)).setCell ⟨g, 0, none⟩ (.int .u64 1043915)) from
  ⟨g, cap, _, rfl, hg4, by simp; omega, r3, hT4, r1, hF⟩)
 clear hT1 hT2 hT3 hT4 hg hg3 hg4 hF r4 hv0;go_wp2_with fail;go_ret;exact N.out
set_option maxRecDepth 100000 in
set_option maxHeartbeats 1000000 in
theorem stkNat5 (S : Nat) (w : World) (hS : w.heap[S]? = some (.cells #[.pointer none] 260 (0, 0))) : Calls Tryz.prog 244 #[.pointer (some ⟨S, 0, none⟩), .int .i64 5] w (NatTmp5 w S) := by
 have s0 : w.cell? ⟨S, 0, none⟩ = some (.pointer none) := by rw [blk_cell hS]; rfl
 have hSl := blk_lt hS;have hS1 := blk_alloc hS (.cells #[.slice none 0 0] 297);have k1 : (w.alloc (.cells #[.slice none 0 0] 297)).cell? ⟨S, 0, none⟩ = some (.pointer none) := by rw [blk_cell hS1]; rfl
 have f1 : (w.alloc (.cells #[.slice none 0 0] 297)).frozen? ⟨S, 0, none⟩ = false := blk_frozen hS1 0;have hS2 : ((w.alloc (.cells #[.slice none 0 0] 297)).setCell ⟨S, 0, none⟩ (.pointer (some ⟨w.heap.size, 0, none⟩))).heap[S]? = some (.cells #[.pointer (some ⟨w.heap.size, 0, none⟩)] 260 (0, 0)) := blk_set hS1 0 (.pointer (some ⟨w.heap.size, 0, none⟩));have hT2 := blk_far (blk_new w (.cells #[.slice none 0 0] 297 (0, 0))) (p := ⟨S, 0, none⟩) (by show w.heap.size ≠ S; omega) (.pointer (some ⟨w.heap.size, 0, none⟩));have hF2 : Fr (fun i => i = S) w ((w.alloc (.cells #[.slice none 0 0] 297)).setCell ⟨S, 0, none⟩ (.pointer (some ⟨w.heap.size, 0, none⟩))) := Fr.setCell (S := fun i => i = S) (p := ⟨S, 0, none⟩) ((Fr.refl _ _).alloc _) (fun _ => rfl) _;have hsz : ((w.alloc (.cells #[.slice none 0 0] 297)).setCell ⟨S, 0, none⟩ (.pointer (some ⟨w.heap.size, 0, none⟩))).heap.size = w.heap.size + 1 := by simp
 have HSL := hid hSl; have HS2 := hid hS2; have HT2 := hid hT2; have HF2 := hid hF2; have HSZ := hid hsz;clear hS hS1 hS2 hT2 hF2 hSl hsz;go_enter Tryz.func244, Tryz.ntmps244;go_wp2_with fail;refine (siNat5 _ _ HT2.out).mono ?_;rintro e w1 ⟨g, c, cs, rfl, r1, r2, r3, r4, r5, r6⟩;have hSs := r6.blk HS2.out (by have := HSL.out; omega);have N := hid (show NatTmp5 w S (.returned (.slice (some ⟨g, 0, none⟩) 5 5)) w1 from ⟨g, w.heap.size, cs, rfl, r1, r2, by have := HSZ.out; omega, Nat.le_refl _, by have := HSZ.out; omega, ⟨hSs, g, 8, c, r4, r5⟩, HF2.out.trans r6 (fun i hi h => by have h : i = w.heap.size := h; omega)⟩);clear r1 r2 r3 r4 r6 hSs;go_wp2_with fail;go_ret;exact N.out
theorem restoreD (S : Nat) (u : FrameMode) (w : World) (hS : w.heap[S]? = some (.cells #[.pointer none] 260 (0, 0))) :
 CallsD Tryz.prog 241 #[.pointer (some ⟨S, 0, none⟩), .int .i64 0] u w fun e u' w' => u' = u ∧ (e = .returned (.tuple #[]) ∧ w' = w) := by
 have s0 : w.cell? ⟨S, 0, none⟩ = some (.pointer none) := by rw [blk_cell hS]; rfl
 go_enter_d Tryz.func241, Tryz.ntmps241
 go_wp2
 refine bodyPost_ret (results_none rfl _ _ _) rfl ?_;exact ⟨rfl, rfl⟩
set_option maxRecDepth 100000 in
theorem restoreTD (S T : Nat) (u : FrameMode) (w : World) (hS : StkT w S T) :
 CallsD Tryz.prog 241 #[.pointer (some ⟨S, 0, none⟩), .int .i64 0] u w fun e u' w' => u' = u ∧ (e = .returned (.tuple #[]) ∧ (S ≠ T → StkT w' S T) ∧ Fr (fun i => i = T) w w') := by
 obtain ⟨hs, g, n, c, ht, hnc⟩ := hS;have s0 : w.cell? ⟨S, 0, none⟩ = some (.pointer (some ⟨T, 0, none⟩)) := by rw [blk_cell hs]; rfl
 have t0 : w.cell? ⟨T, 0, none⟩ = some (.slice (some ⟨g, 0, none⟩) n c) := by rw [blk_cell ht]; rfl
 have f0 : w.frozen? ⟨T, 0, none⟩ = false := blk_frozen ht 0;have N := hid (show (S ≠ T → StkT (w.setCell ⟨T, 0, none⟩ (.slice (some ⟨g, 0, none⟩) 0 c)) S T) ∧ Fr (fun i => i = T) w (w.setCell ⟨T, 0, none⟩ (.slice (some ⟨g, 0, none⟩) 0 c)) from
  ⟨fun hne => ⟨blk_far hs (p := ⟨T, 0, none⟩) hne _, g, 0, c, blk_set ht 0 _, Nat.zero_le _⟩, Fr.setCell (S := fun i => i = T) (p := ⟨T, 0, none⟩) (Fr.refl _ _) (fun _ => rfl) _⟩)
 clear hs ht;go_enter_d Tryz.func241, Tryz.ntmps241
 go_wp2
 go_end0;exact ⟨rfl, N.out⟩
set_option maxRecDepth 100000 in
theorem freeTD (S T : Nat) (u : FrameMode) (w : World) (hS : StkT w S T) :
 CallsD Tryz.prog 183 #[.pointer (some ⟨S, 0, none⟩)] u w fun e u' w' => u' = u ∧ (e = .returned (.tuple #[]) ∧ Fr (fun i => i = T) w w') := by
 obtain ⟨hs, g, n, c, ht, hnc⟩ := hS;have s0 : w.cell? ⟨S, 0, none⟩ = some (.pointer (some ⟨T, 0, none⟩)) := by rw [blk_cell hs]; rfl
 have t0 : w.cell? ⟨T, 0, none⟩ = some (.slice (some ⟨g, 0, none⟩) n c) := by rw [blk_cell ht]; rfl
 have f0 : w.frozen? ⟨T, 0, none⟩ = false := blk_frozen ht 0;have N := hid (show Fr (fun i => i = T) w (w.setCell ⟨T, 0, none⟩ (.slice (some ⟨g, 0, none⟩) 0 c)) from
  Fr.setCell (S := fun i => i = T) (p := ⟨T, 0, none⟩) (Fr.refl _ _) (fun _ => rfl) _)
 clear hs ht;go_enter_d Tryz.func183, Tryz.ntmps183
 go_wp2
 go_end0;exact ⟨rfl, N.out⟩
def StkS (w0 w : World) (S gt : Nat) : Prop := w.heap[S]? = some (.cells #[.pointer none] 260 (0, 0)) ∨ ∃ T, StkT w S T ∧ w0.heap.size ≤ T ∧ T ≠ gt
def NatTmpS (w : World) (S n : Nat) (e : Ending) (w' : World) : Prop :=
 ∃ g cap cs, e = .returned (.slice (some ⟨g, 0, none⟩) n cap) ∧ w'.heap[g]? = some (.cells cs 105 (0, 0)) ∧ n ≤ cap ∧ n ≤ cs.size ∧ w.heap.size ≤ g ∧ StkS w w' S g ∧ Fr (fun i => i = S) w w'
theorem stkNat_any (S n : Nat) (hn : 1 ≤ n) (hn' : n ≤ 5) (w : World) (hS : w.heap[S]? = some (.cells #[.pointer none] 260 (0, 0))) : Calls Tryz.prog 244 #[.pointer (some ⟨S, 0, none⟩), .int .i64 (n : Int)] w (NatTmpS w S n) := by
 by_cases h : n ≤ 4;· refine (stkNat4 S n hn h w hS).mono ?_;rintro e w' ⟨g, cap, cs, r1, r2, r3, r4, r5, r6⟩;exact ⟨g, cap, cs, r1, r2, r3, r4, r5, .inl (r6.blk hS (fun h => h)), r6.mono (fun _ _ h => h.elim)⟩
 · obtain rfl : n = 5 := by omega
   refine (stkNat5 S w hS).mono ?_;rintro e w' ⟨g, T, cs, r1, r2, r3, r4, r5, r6, r7, r8⟩;exact ⟨g, 5, cs, r1, r2, Nat.le_refl _, r3, r4, .inr ⟨T, r7, r5, Ne.symm r6⟩, r8⟩
theorem restore_any (S gt : Nat) (u : FrameMode) (w0 w : World) (hS0 : S < w0.heap.size) (hS : StkS w0 w S gt) :
 CallsD Tryz.prog 241 #[.pointer (some ⟨S, 0, none⟩), .int .i64 0] u w fun e u' w' => u' = u ∧ (e = .returned (.tuple #[]) ∧ StkS w0 w' S gt ∧ Fr (fun i => w0.heap.size ≤ i) w w') := by
 rcases hS with h | ⟨T, h1, h2, h3⟩
 · refine (restoreD S u w h).mono ?_;rintro e u' w' ⟨rfl, rfl, rfl⟩;exact ⟨rfl, rfl, .inl h, Fr.refl _ _⟩
 · refine (restoreTD S T u w h1).mono ?_;rintro e u' w' ⟨rfl, rfl, r1, r2⟩;exact ⟨rfl, rfl, .inr ⟨T, r1 (by omega), h2, h3⟩, r2.mono (fun i _ h => by have h : i = T := h; omega)⟩
theorem StkS.fr {S' : Nat → Prop} {w0 w w' : World} {S gt : Nat} (h : StkS w0 w S gt) (hF : Fr S' w w') (hS : ¬ S' S) (hT : ∀ T, w0.heap.size ≤ T → T ≠ gt → ¬ S' T) : StkS w0 w' S gt := by
 rcases h with h | ⟨T, ⟨h1, g, n, c, h2, h4⟩, h3, h5⟩
 · exact .inl (hF.blk h hS)
 · exact .inr ⟨T, ⟨hF.blk h1 hS, g, n, c, hF.blk h2 (hT T h3 h5), h4⟩, h3, h5⟩
theorem StkS.drew {w0 w : World} {S gt : Nat} (h : StkS w0 w S gt) : StkS w0 w.drew S gt := h.fr ((Fr.refl NoB w).drew) (fun h => h) (fun _ _ _ h => h)
structure DivAt (w0 wr : World) (gq gu gt S : Nat) (zq zu n m V : Nat) (L0 : List Nat) (K ujn : Nat) : Prop where
 rows : ∃ csu csq cst L Q, wr.heap[gu]? = some (.cells csu 105 (0, 0)) ∧ csu.size = zu ∧ wr.heap[gq]? = some (.cells csq 105 (0, 0)) ∧ csq.size = zq ∧ wr.heap[gt]? = some (.cells cst 105 (0, 0)) ∧ n + 1 ≤ cst.size ∧
  RowIs csu L ∧ L.length = m + n ∧ (∀ x ∈ L, x < WB) ∧ (∀ (i x : Nat), Q[i]? = some x → csq[K + i]? = some (.int .u64 (x : Int))) ∧ (∀ x ∈ Q, x < WB) ∧
  ((K = m + 1 ∧ L = L0 ∧ ujn = 0 ∧ Q = []) ∨ (K ≤ m ∧ Q.length = m - K ∧ L[K + n - 1]? = some ujn ∧ nval (L.drop K) < V ∧ nval L0 = nval L + V * WB ^ K * nval Q))
 stk : StkS w0 wr S gt
 fr : Fr (fun i => i = gu ∨ i = gq ∨ i = S) w0 wr
def BasicRes (w0 : World) (gq gu S : Nat) (zq zu n m V : Nat) (L0 : List Nat) (w' : World) : Prop :=
 ∃ csu csq L Q gt, w'.heap[gu]? = some (.cells csu 105 (0, 0)) ∧ csu.size = zu ∧ w'.heap[gq]? = some (.cells csq 105 (0, 0)) ∧ csq.size = zq ∧ RowIs csu L ∧ L.length = m + n ∧ (∀ x ∈ L, x < WB) ∧ RowIs csq Q ∧ Q.length = m ∧ (∀ x ∈ Q, x < WB) ∧
  nval L < V ∧ nval L0 = nval L + V * nval Q ∧ StkS w0 w' S gt ∧ Fr (fun i => i = gu ∨ i = gq ∨ i = S) w0 w'
theorem greater_any (a b c d : Nat) (ha : a < WB) (hb : b < WB) (hc : c < WB) (hd : d < WB) (w : World) : Calls Tryz.prog 280 #[.int .u64 (a : Int), .int .u64 (b : Int), .int .u64 (c : Int), .int .u64 (d : Int)] w fun e w' => e = .returned (.bool (decide (c * WB + d < a * WB + b))) ∧ w = w' := by
 by_cases h1 : c < a
 · have e : decide (c * WB + d < a * WB + b) = true := decide_eq_true (by
    have := Nat.mul_le_mul_right WB h1;rw [Nat.succ_mul] at this;omega)
   have f : ((c : Int) < (a : Int)) = True := eq_true (by omega);rw [e];go_enter Tryz.func280, Tryz.ntmps280;go_wp2_with fail;go_ret;exact ⟨rfl, rfl⟩
 · have f : ((c : Int) < (a : Int)) = False := eq_false (by omega);by_cases h2 : a = c
   · subst h2;have f2 : ((a : Int) == (a : Int)) = true := by simp
     have e : decide (a * WB + d < a * WB + b) = decide (d < b) := by
      by_cases h : d < b;· rw [decide_eq_true (by omega), decide_eq_true (by omega)]
      · rw [decide_eq_false (by omega), decide_eq_false (by omega)]
     rw [e];go_enter Tryz.func280, Tryz.ntmps280;go_wp2_with fail;go_ret;exact ⟨rfl, rfl⟩
   · have f2 : ((a : Int) == (c : Int)) = false := beq_eq_false_iff_ne.2 (by omega);have e : decide (c * WB + d < a * WB + b) = false := decide_eq_false (by
      have := Nat.mul_le_mul_right WB (show a + 1 ≤ c by omega);rw [Nat.succ_mul] at this;omega)
     rw [e];go_enter Tryz.func280, Tryz.ntmps280;go_wp2_with fail;go_ret;exact ⟨rfl, rfl⟩
def guessOf (u2 u1 u0 v1 v0 : Nat) : Nat := if u2 = v1 then WB - 1 else ((u2 * WB + u1) * WB + u0) / (v1 * WB + v0)
theorem less_words {q v0 x1 x2 : Nat} (hq : 1 ≤ q) (hx : q * v0 = x1 * WB + x2) (h0 : v0 < WB) (h2 : x2 < WB) (h1 : x1 < WB) :
 (v0 ≤ x2 → (q - 1) * v0 = x1 * WB + (x2 - v0)) ∧ (x2 < v0 → 1 ≤ x1 ∧ (q - 1) * v0 = (x1 - 1) * WB + (x2 + WB - v0)) := by
 obtain ⟨p, rfl⟩ : ∃ p, q = p + 1 := ⟨q - 1, by omega⟩
 rw [Nat.add_mul, Nat.one_mul] at hx;rw [Nat.add_sub_cancel];refine ⟨fun h => by omega, fun h => ?_⟩;have h3 : 1 ≤ x1 := by
  rcases Nat.eq_zero_or_pos x1 with h | h;· subst h; rw [Nat.zero_mul] at hx; omega
  · exact h
 refine ⟨h3, ?_⟩;obtain ⟨y, rfl⟩ : ∃ y, x1 = y + 1 := ⟨x1 - 1, by omega⟩
 rw [Nat.add_mul, Nat.one_mul] at hx;rw [Nat.add_sub_cancel];omega
theorem seg_lt {L : List Nat} {k n V : Nat} (hk : k + n + 1 ≤ L.length) (hb : ∀ x ∈ L, x < WB) (hVn : V ≤ WB ^ n) (hR : nval (L.drop (k + 1)) < V) : nval ((L.drop k).take (n + 1)) < V * WB := by
 obtain ⟨x, hx⟩ : ∃ x, L[k]? = some x := ⟨_, List.getElem?_eq_getElem (by omega)⟩
 have hxb := hb x (List.mem_of_getElem? hx);have hU1 : nval (L.drop k) = x + WB * nval (L.drop (k + 1)) := by rw [nval_drop L k x hx]; rfl
 have hle : nval ((L.drop k).take (n + 1)) ≤ nval (L.drop k) := by
  rw [nval_take_drop (L.drop k) (n + 1) (by rw [List.length_drop]; omega)]; omega
 have := Nat.mul_le_mul_right WB (show nval (L.drop (k + 1)) + 1 ≤ V from hR);rw [Nat.add_mul, Nat.one_mul, Nat.mul_comm (nval _)] at this;omega
theorem seg_get {L : List Nat} {k n i x : Nat} (hi : i ≤ n) (hx : L[k + i]? = some x) : ((L.drop k).take (n + 1))[i]? = some x := by
 rw [List.getElem?_take, if_pos (by omega), List.getElem?_drop]; exact hx
theorem seg_good {L vs : List Nat} {k n u2 u1 u0 v1 v0 : Nat} (hn : 2 ≤ n) (hk : k + n + 1 ≤ L.length) (hb : ∀ x ∈ L, x < WB) (hbv : ∀ x ∈ vs, x < WB) (hvl : vs.length = n) (hR : nval (L.drop (k + 1)) < nval vs)
 (a2 : L[k + n]? = some u2) (a1 : L[k + n - 1]? = some u1) (a0 : L[k + n - 2]? = some u0) (c1 : vs[n - 1]? = some v1) (c0 : vs[n - 2]? = some v0) (hv1 : 9223372036854775808 ≤ v1) :
 u2 ≤ v1 ∧ GoodQ (nval ((L.drop k).take (n + 1))) (nval vs) (guessOf u2 u1 u0 v1 v0) := by
 have hl : ((L.drop k).take (n + 1)).length = n + 1 := by rw [List.length_take, List.length_drop]; omega
 have hVn := nval_lt vs hbv;rw [hvl] at hVn;obtain ⟨g1, g2, g3, g4⟩ := good_top hn hl hvl (fun x hx => hb x (List.mem_of_mem_drop (List.mem_of_mem_take hx))) hbv (seg_get (Nat.le_refl _) a2) (seg_get (by omega) (by rw [show k + (n - 1) = k + n - 1 by omega]; exact a1)) (seg_get (by omega) (by rw [show k + (n - 2) = k + n - 2 by omega]; exact a0)) c1 c0 rfl rfl (seg_lt hk hb (Nat.le_of_lt hVn) hR) (by rw [WB_eq]; omega);refine ⟨g1, ?_⟩;unfold guessOf;by_cases he : u2 = v1;· rw [if_pos he]; exact g3 he
 · rw [if_neg he]; exact (g4 (by omega)).1
theorem top_less {L vs : List Nat} {m n ut v1 : Nat} (hn : 2 ≤ n) (hl : L.length = m + n) (hb : ∀ x ∈ L, x < WB) (hvl : vs.length = n) (hu : L[m + n - 1]? = some ut) (hv : vs[n - 1]? = some v1) (h : ut < v1) : nval (L.drop m) < nval vs := by
 have e1 : nval (L.drop m) = nval ((L.drop m).take (n - 1)) + WB ^ (n - 1) * ut := by
  rw [nval_take_drop (L.drop m) (n - 1) (by rw [List.length_drop]; omega), List.drop_drop, nval_drop L (m + (n - 1)) ut (by rw [← hu]; congr 1; omega), List.drop_eq_nil_of_le (show L.length ≤ m + (n - 1) + 1 by omega)];simp [nval]
 have e2 : nval vs = nval (vs.take (n - 1)) + WB ^ (n - 1) * v1 := by
  rw [nval_take_drop vs (n - 1) (by omega), nval_drop vs (n - 1) v1 hv, List.drop_eq_nil_of_le (by omega)];simp [nval]
 have hlt := nval_lt ((L.drop m).take (n - 1)) (fun x hx => hb x (List.mem_of_mem_drop (List.mem_of_mem_take hx)));rw [List.length_take, List.length_drop, Nat.min_eq_left (by omega)] at hlt;have h3 := Nat.mul_le_mul_left (WB ^ (n - 1)) (show ut + 1 ≤ v1 from h);rw [Nat.mul_add, Nat.mul_one] at h3;omega
theorem row_again {csu : Array Value} {L S1 S2 : List Nat} {k n : Nat} (h : RowIs csu L) (hk : k + (n + 1) ≤ L.length) (hs : L.length ≤ csu.size) (l1 : S1.length = n + 1) (l2 : S2.length = n + 1) :
 RowIs (putV (putV csu k (u64s S1)) k (u64s S2)) (L.take k ++ S2 ++ L.drop (k + (n + 1))) := by
 have h1 := h.put (S := S1) k (by omega) hs;rw [l1] at h1;have ht : (L.take k).length = k := by rw [List.length_take]; omega
 have h2 := h1.put (S := S2) k (by rw [List.length_append, List.length_append, ht, List.length_drop, l1]; omega) (by rw [putV_size, List.length_append, List.length_append, ht, List.length_drop, l1]; omega);rw [l2, List.append_assoc (L.take k) S1, List.take_append_of_le_length (by omega), List.take_of_length_le (by omega), List.drop_append, List.drop_eq_nil_of_le (show (L.take k).length ≤ k + (n + 1) by omega), ht, List.nil_append, show k + (n + 1) - k = n + 1 by omega, List.drop_append, List.drop_eq_nil_of_le (show S1.length ≤ n + 1 by omega), List.nil_append, l1, Nat.sub_self, List.drop_zero] at h2;exact h2
theorem quo_row {csq : Array Value} {Q : List Nat} {k q : Nat} (hk : k < csq.size) (h : ∀ (i x : Nat), Q[i]? = some x → csq[k + 1 + i]? = some (.int .u64 (x : Int))) : ∀ (i x : Nat), (q :: Q)[i]? = some x → (csq.setIfInBounds k (.int .u64 (q : Int)))[k + i]? = some (.int .u64 (x : Int)) := by
 intro i x hi;rw [Array.getElem?_setIfInBounds];cases i with
 | zero => simp at hi; subst hi; rw [if_pos (by omega), if_pos hk]
 | succ i =>
  rw [if_neg (by omega), show k + (i + 1) = k + 1 + i by omega];exact h i x (by simpa using hi)
def second : Code → Code | .seq _ b => b | c => c
def loopBody : Code → Option Code
 | .loop c => some c
 | .seq a b => match loopBody a with
  | some c => some c
  | none => loopBody b
 | .block _ c => loopBody c
 | .cond _ a b => match loopBody a with
  | some c => some c
  | none => loopBody b
 | _ => none
def roundOf : Code → Code | .seq _ (.seq (.block _ b) _) => b | c => c
noncomputable def rest247 : Code := second (second (roundOf ((Tryz.f247.body.bind loopBody).getD .skip)))
end Go.Proofs.YteokhhepnoelhaaGreatDoor
