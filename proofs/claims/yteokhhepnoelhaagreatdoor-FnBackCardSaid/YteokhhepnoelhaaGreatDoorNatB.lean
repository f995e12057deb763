/-
  The words of a number; setWord, mulAddWW.
-/
import Derived.Test.YteokhhepnoelhaaGreatDoorNat
set_option linter.unusedVariables false
set_option linter.unusedSimpArgs false
namespace Go.Proofs.YteokhhepnoelhaaGreatDoor
open Go.RowKit

/-! ### The words of a number -/
def limbs (n : Nat) : List Nat := if h : n = 0 then [] else n % WB :: limbs (n / WB)
termination_by n
decreasing_by exact Nat.div_lt_self (by omega) (by decide)

theorem limbs_zero : limbs 0 = [] := by rw [limbs]; simp
theorem limbs_pos {n : Nat} (h : n ≠ 0) : limbs n = n % WB :: limbs (n / WB) := by rw [limbs]; simp [h]
theorem limbs_lt (n : Nat) : ∀ x ∈ limbs n, x < WB := by
  induction n using Nat.strongRecOn with
  | _ n ih =>
    intro x hx
    by_cases h : n = 0
    · subst h; rw [limbs_zero] at hx; cases hx
    · rw [limbs_pos h] at hx
      rcases List.mem_cons.1 hx with rfl | hx
      · exact Nat.mod_lt _ WB_pos
      · exact ih _ (Nat.div_lt_self (by omega) (by decide)) x hx
theorem nval_limbs (n : Nat) : nval (limbs n) = n := by
  induction n using Nat.strongRecOn with
  | _ n ih =>
    by_cases h : n = 0
    · subst h; rw [limbs_zero]; rfl
    · rw [limbs_pos h, nval, ih _ (Nat.div_lt_self (by omega) (by decide)), Nat.mod_add_div]
theorem limbs_nil {n : Nat} : limbs n = [] ↔ n = 0 := by
  constructor
  · intro h
    have := nval_limbs n
    rw [h] at this
    exact this.symm
  · rintro rfl; exact limbs_zero
theorem normL_limbs (xs : List Nat) (h : ∀ x ∈ xs, x < WB) : normL xs = limbs (nval xs) := by
  induction xs with
  | nil => rw [nval, limbs_zero]; rfl
  | cons x xs ih =>
    have hx := h x (by simp)
    have ih := ih (fun u hu => h u (by simp [hu]))
    rw [normL, ih, nval]
    have hd : (x + WB * nval xs) / WB = nval xs := by rw [Nat.add_mul_div_left _ _ WB_pos, Nat.div_eq_of_lt hx, Nat.zero_add]
    have hm : (x + WB * nval xs) % WB = x := by rw [Nat.add_mul_mod_self_left, Nat.mod_eq_of_lt hx]
    by_cases h0 : nval xs = 0
    · rw [h0, limbs_zero]
      by_cases hx0 : x = 0
      · simp [hx0, limbs_zero]
      · have hne : x + WB * 0 ≠ 0 := by omega
        rw [h0] at hd hm
        simp only [hx0, if_false]
        rw [limbs_pos hne, hd, hm, limbs_zero]
    · have hne : x + WB * nval xs ≠ 0 := by
        have : 0 < WB * nval xs := Nat.mul_pos WB_pos (by omega)
        omega
      rw [limbs_pos hne, hd, hm]
      rw [limbs_pos h0]
theorem limbs_length_le (k : Nat) : ∀ n, n < WB ^ k → (limbs n).length ≤ k := by
  induction k with
  | zero =>
    intro n h
    rw [Nat.pow_zero] at h
    have h0 : n = 0 := by omega
    subst h0
    simp [limbs_zero]
  | succ k ih =>
    intro n h
    by_cases h0 : n = 0
    · subst h0; simp [limbs_zero]
    · rw [limbs_pos h0, List.length_cons]
      have : n / WB < WB ^ k := by
        rw [Nat.div_lt_iff_lt_mul WB_pos]; rw [Nat.pow_succ] at h; exact h
      have := ih _ this
      omega
theorem limbs_mulAdd (X y r : Nat) (hr : r < WB) (hy : y < WB) : normL (mulAddZ (limbs X) y r ++ [mulAddC (limbs X) y r]) = limbs (X * y + r) := by
  rw [normL_limbs, nval_mulAdd, nval_limbs]
  intro x hx
  rcases List.mem_append.1 hx with hx | hx
  · exact mulAddZ_lt _ _ _ x hx
  · simp at hx; subst hx; exact mulAddC_lt _ _ hy _ hr (limbs_lt X)

/-- What a function of nat gives that writes into z's own block or a new one: the number n. -/
def NatRes (w : World) (v : Value) (n : Nat) (e : Ending) (w' : World) : Prop :=
  ∃ v', e = .returned v' ∧ NatAt w' v' (limbs n) ∧ Fr (fun i => natBlk v = some i) w w' ∧ ∀ g, natBlk v' = some g → natBlk v = some g ∨ w.heap.size ≤ g

theorem natSetWord (v : Value) (zs : List Nat) (x : Nat) (hx : x < WB) (w : World) (hv : NatAt w v zs) :
    Calls Tryz.prog 162 #[v, .int .u64 (x : Int)] w (NatRes w v x) := by
  by_cases h0 : x = 0
  · subst h0
    rcases hv with ⟨rfl, rfl⟩ | ⟨g, cap, cs, rfl, hg, h1, h2, h3, h4⟩
    · have N : NatRes w (.slice none 0 0) 0 (.returned (.slice none 0 0)) w := ⟨_, rfl, by rw [limbs_zero]; exact NatAt.nil w, Fr.refl _ _, fun g h => by cases h⟩
      have N := hid N
      go_enter Tryz.func162, Tryz.ntmps162
      go_wp2
      go_ret
      exact N.out
    · have N : NatRes w (.slice (some ⟨g, 0, none⟩) zs.length cap) 0 (.returned (.slice (some ⟨g, 0, none⟩) 0 cap)) w :=
        ⟨_, rfl, by rw [limbs_zero]; exact .inr ⟨g, cap, cs, rfl, hg, h1, Nat.zero_le _, h3, by simp⟩, Fr.refl _ _, fun k h => .inl h⟩
      have N := hid N
      clear hg h4
      go_enter Tryz.func162, Tryz.ntmps162
      go_wp2
      go_ret
      exact N.out
  · have hx0 : ((x : Int) == 0) = false := by simp; omega
    have hl : limbs x = [x] := by
      rw [limbs_pos h0, Nat.mod_eq_of_lt hx, Nat.div_eq_of_lt hx, limbs_zero]
    have HL := hid hl; have HX := hid hx; have HV := hid hv
    clear hl h0 hx hv
    go_enter Tryz.func162, Tryz.ntmps162
    go_wp2_with fail
    refine (natMake v zs 1 w HV.out (by omega) (by omega)).mono ?_
    rintro e w1 ⟨g, cap, cs, rfl, hg, h1, h2, h3, hF, hgb⟩
    obtain ⟨v0, hv0⟩ : ∃ u, cs[0]? = some u := ⟨_, Array.getElem?_eq_getElem (by omega)⟩
    have hc0 : w1.cell? ⟨g, 0, none⟩ = some v0 := by rw [blk_cell hg]; exact hv0
    have hf0 : w1.frozen? ⟨g, 0, none⟩ = false := blk_frozen hg 0
    have hset := blk_set hg 0 (.int .u64 (x : Int))
    have N : NatRes w v x (.returned (.slice (some ⟨g, 0, none⟩) 1 cap)) (w1.setCell ⟨g, 0, none⟩ (.int .u64 (x : Int))) := by
      refine ⟨_, rfl, ?_, ?_, ?_⟩
      · rw [HL.out]
        refine .inr ⟨g, cap, _, rfl, hset, by rw [Array.size_setIfInBounds]; exact h1, h2, h3, ?_⟩
        intro j u hj
        cases j with
        | zero => simp at hj; subst hj; rw [Array.getElem?_setIfInBounds, if_pos rfl, if_pos (by omega)]
        | succ j => simp at hj
      · refine Fr.setCell (Fr.mono hF (fun _ _ h => h.elim)) ?_ _
        intro hlt
        rcases hgb with h | h
        · exact h
        · exact absurd hlt (Nat.not_lt.2 h)
      · intro k hk
        cases hk
        exact hgb
    have N := hid N
    clear hset hg hv0 hF hgb
    go_wp2
    go_ret
    exact N.out

set_option maxHeartbeats 1000000 in
theorem natMulAddWW (v vx : Value) (zs : List Nat) (X y r : Nat) (w : World) (hv : NatAt w v zs) (hvx : NatAt w vx (limbs X)) (hy : y < WB) (hr : r < WB) (hl : (limbs X).length ≤ 900) :
    Calls Tryz.prog 225 #[v, vx, .int .u64 (y : Int), .int .u64 (r : Int)] w (NatRes w v (X * y + r)) := by
  have HV := hid hv; have HVX := hid hvx; have HY := hid hy; have HR := hid hr
  rcases hvx with ⟨rfl, hx0⟩ | ⟨gx, capx, csx, rfl, hgx, x1, x2, x3, x4⟩
  · have hX : X = 0 := limbs_nil.1 hx0
    subst hX
    have HS := hid (natSetWord v zs r hr w hv)
    have N0 := hid (show 0 * y + r = r by omega)
    clear hv hy hr hl hx0 HVX
    go_enter Tryz.func225, Tryz.ntmps225
    go_wp2_with fail
    refine HS.out.mono ?_
    rintro e w1 ⟨v', rfl, k1, k2, k3⟩
    have N : NatRes w v (0 * y + r) (.returned v') w1 := ⟨v', rfl, by rw [N0.out]; exact k1, k2, k3⟩
    have N := hid N
    clear k1 k2 k3
    go_wp2
    go_ret
    exact N.out
  · have hm0 : (((limbs X).length : Int) == 0) = false ∨ X = 0 := by
      by_cases h : X = 0
      · exact .inr h
      · left
        have : limbs X ≠ [] := fun hh => h (limbs_nil.1 hh)
        have : (limbs X).length ≠ 0 := fun hh => this (List.length_eq_zero_iff.1 hh)
        simp; omega
    by_cases hshort : X = 0 ∨ y = 0
    · have HS := hid (natSetWord v zs r hr w hv)
      have e0 : X * y + r = r := by rcases hshort with h | h <;> simp [h]
      have N0 := hid e0
      have fin : ∀ v' w1, NatAt w1 v' (limbs r) → Fr (fun i => natBlk v = some i) w w1 → (∀ g, natBlk v' = some g → natBlk v = some g ∨ w.heap.size ≤ g) → NatRes w v (X * y + r) (.returned v') w1 :=
        fun v' w1 k1 k2 k3 => ⟨v', rfl, by rw [e0]; exact k1, k2, k3⟩
      have FIN := hid fin
      by_cases hX : X = 0
      · subst hX
        have hl0 : ((limbs 0).length : Int) = 0 := by rw [limbs_zero]; rfl
        have hl1 : (((limbs 0).length : Int) == 0) = true := by rw [hl0]; rfl
        clear hv hy hr hl hm0 hshort e0 fin hgx x4 hl0
        go_enter Tryz.func225, Tryz.ntmps225
        go_wp2_with fail
        refine HS.out.mono ?_
        rintro e w1 ⟨v', rfl, k1, k2, k3⟩
        have N := hid (FIN.out v' w1 k1 k2 k3)
        clear k1 k2 k3
        go_wp2
        go_ret
        exact N.out
      · have hm1 : (((limbs X).length : Int) == 0) = false := hm0.resolve_right hX
        have hy0 : y = 0 := hshort.resolve_left hX
        subst hy0
        clear hv hy hr hl hm0 hshort e0 fin hgx x4 hX
        go_enter Tryz.func225, Tryz.ntmps225
        go_wp2_with fail
        refine HS.out.mono ?_
        rintro e w1 ⟨v', rfl, k1, k2, k3⟩
        have N := hid (FIN.out v' w1 k1 k2 k3)
        clear k1 k2 k3
        go_wp2
        go_ret
        exact N.out
    · have hX : X ≠ 0 := fun h => hshort (.inl h)
      have hm1 : (((limbs X).length : Int) == 0) = false := hm0.resolve_right hX
      have hy0 : ((y : Int) == 0) = false := by
        have : y ≠ 0 := fun h => hshort (.inr h)
        simp; omega
      have hlen1 : 1 ≤ (limbs X).length := by
        have : limbs X ≠ [] := fun hh => hX (limbs_nil.1 hh)
        have : (limbs X).length ≠ 0 := fun hh => this (List.length_eq_zero_iff.1 hh)
        omega
      have HGX := hid hgx; have X4 := hid x4
      have HLB := hid (limbs_lt X)
      have HLM := hid (limbs_mulAdd X y r hr hy)
      clear hv hy hr hm0 hshort hgx x4 hX
      generalize limbs X = xs at *
      go_enter Tryz.func225, Tryz.ntmps225
      go_wp2_with fail
      have HM := natMake v zs (xs.length + 1) w HV.out (by omega) (by omega)
      rw [show ((xs.length + 1 : Nat) : Int) = (xs.length : Int) + 1 by omega] at HM
      refine HM.mono ?_
      clear HM
      rintro e w1 ⟨g, cap, cs, rfl, hg, h1, h2, h3, hF, hgb⟩
      have hgx1 := hF.blk HGX.out (fun h => h)
      have HC := hid (mulAddVWW g 0 cap gx 0 capx cs xs y r w1 hg (by omega) (fun j x hj => by rw [blk_cell hgx1, Nat.zero_add]; exact X4.out j x hj) (fun _ => rfl) HLB.out HY.out HR.out (by omega))
      have HF := hid hF; have HGB := hid hgb
      clear hF hgb hgx1 hg
      go_wp2_with fail
      refine HC.out.mono ?_
      clear HC
      rintro e w2 ⟨rfl, hg2, hF2⟩
      have hZl : (u64s (mulAddZ xs y r)).length = xs.length := by rw [u64s_length, mulAddZ_length]
      have hsz : (putV cs 0 (u64s (mulAddZ xs y r))).size = cs.size := putV_size _ _ _
      obtain ⟨v0, hv0⟩ : ∃ u, (putV cs 0 (u64s (mulAddZ xs y r)))[xs.length]? = some u := ⟨_, Array.getElem?_eq_getElem (by omega)⟩
      have hc0 : w2.cell? ⟨g, xs.length, none⟩ = some v0 := by rw [blk_cell hg2]; exact hv0
      have hf0 : w2.frozen? ⟨g, xs.length, none⟩ = false := blk_frozen hg2 _
      have hset := blk_set hg2 xs.length (.int .u64 (mulAddC xs y r : Int))
      have hput : (putV cs 0 (u64s (mulAddZ xs y r))).setIfInBounds xs.length (.int .u64 (mulAddC xs y r : Int)) = putV cs 0 (u64s (mulAddZ xs y r ++ [mulAddC xs y r])) := by
        rw [u64s_append, show u64s [mulAddC xs y r] = [.int .u64 (mulAddC xs y r : Int)] from rfl, putV_snoc, hZl, Nat.zero_add]
      rw [hput] at hset
      have hlen : (mulAddZ xs y r ++ [mulAddC xs y r]).length = xs.length + 1 := by rw [List.length_append, mulAddZ_length]; rfl
      have hat : NatAt (w2.setCell ⟨g, xs.length, none⟩ (.int .u64 (mulAddC xs y r : Int))) (.slice (some ⟨g, 0, none⟩) (xs.length + 1) cap) (mulAddZ xs y r ++ [mulAddC xs y r]) := by
        refine .inr ⟨g, cap, _, by rw [hlen], hset, by rw [putV_size]; exact h1, by omega, h3, fun j x hj => ?_⟩
        have := putV_get_in (u64s (mulAddZ xs y r ++ [mulAddC xs y r])) cs 0 j (by rw [u64s_length, hlen]; omega) (by rw [u64s_length]; exact (List.getElem?_eq_some_iff.1 hj).1)
        rw [Nat.zero_add] at this
        rw [this, u64s_get, hj]
        rfl
      have hFw : Fr (fun i => natBlk v = some i) w (w2.setCell ⟨g, xs.length, none⟩ (.int .u64 (mulAddC xs y r : Int))) := by
        have a1 : Fr (fun i => natBlk v = some i) w w2 := by
          refine Fr.trans (Fr.mono HF.out (fun _ _ h => h.elim)) hF2 (fun i hi h => ?_)
          subst h
          exact HGB.out.resolve_right (Nat.not_le.2 hi)
        exact a1.setCell (fun hi => HGB.out.resolve_right (Nat.not_le.2 hi)) _
      have HN := hid (natNorm _ _ _ hat)
      have fin : ∀ v' w3, Normed (w2.setCell ⟨g, xs.length, none⟩ (.int .u64 (mulAddC xs y r : Int))) (.slice (some ⟨g, 0, none⟩) (xs.length + 1) cap) (mulAddZ xs y r ++ [mulAddC xs y r]) (.returned v') w3 → NatRes w v (X * y + r) (.returned v') w3 := by
        rintro v' w3 ⟨rfl, u, hu, k1, k2⟩
        cases hu
        refine ⟨_, rfl, by rw [← HLM.out]; exact k1, hFw, fun k hk => ?_⟩
        rw [k2] at hk
        cases hk
        exact HGB.out
      have FIN := hid fin
      clear hset hput hat hFw fin hg2 hF2 hv0 hZl hsz hlen
      generalize mulAddC xs y r = cc at *
      generalize mulAddZ xs y r ++ [cc] = zz at *
      go_wp2_with fail
      refine HN.out.mono ?_
      rintro e w3 ⟨hw, v', rfl, k1, k2⟩
      have N := hid (FIN.out v' w3 ⟨hw, v', rfl, k1, k2⟩)
      clear hw k1 k2
      go_wp2
      go_ret
      exact N.out
end Go.Proofs.YteokhhepnoelhaaGreatDoor
