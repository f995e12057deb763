/-
  nat.lsh of the number 1: a power of two.
-/
import Derived.Test.YteokhhepnoelhaaGreatDoorAlias
import Derived.Test.YteokhhepnoelhaaGreatDoorMulMath
import Derived.Lib.SliceRun
import Derived.BigFrame
set_option linter.unusedVariables false
set_option linter.unusedSimpArgs false
namespace Go.Proofs.YteokhhepnoelhaaGreatDoor
open Go.RowKit

theorem and63 (n : Nat) (h : n ≤ 63) : bits .and .u64 (n : Int) 63 = (n : Int) := by
  have := u64_and_nat n 63 (by omega) (by omega)
  rw [show ((63 : Nat) : Int) = 63 from rfl] at this
  rw [this, show (63 : Nat) = 2 ^ 6 - 1 from rfl, Nat.and_two_pow_sub_one_eq_mod]
  omega

set_option maxRecDepth 100000 in
set_option maxHeartbeats 1000000 in
theorem lshVU_g_one (gz oz cz gx cx s x : Nat) (w : World) (csz : Array Value) (hz : w.heap[gz]? = some (.cells csz 105 (0, 0))) (v0 : Value) (hzn : csz[oz]? = some v0) (hx : w.cell? ⟨gx, 0, none⟩ = some (.int .u64 (x : Int))) (hs : 1 ≤ s) (hs' : s ≤ 63) (hxb : x < 18446744073709551616) :
    Calls Tryz.prog 279 #[.slice (some ⟨gz, oz, none⟩) 1 cz, .slice (some ⟨gx, 0, none⟩) 1 cx, .int .u64 (s : Int)] w
      fun e w' => e = .returned (.int .u64 ((x / 2 ^ (64 - s) : Nat) : Int)) ∧ w' = w.setCell ⟨gz, oz, none⟩ (.int .u64 ((x * 2 ^ s % 18446744073709551616 : Nat) : Int)) := by
  have e1 : bits .and .u64 (s : Int) 63 = (s : Int) := and63 s hs'
  have e2 : bits .and .u64 (64 - (s : Int)) 63 = (64 - (s : Int)) := by
    have := and63 (64 - s) (by omega)
    rw [show ((64 - s : Nat) : Int) = 64 - (s : Int) by omega] at this
    exact this
  have s0 : ((s : Int) == 0) = false := beq_eq_false_iff_ne.2 (by omega)
  have k0 : w.cell? ⟨gz, oz, none⟩ = some v0 := by rw [blk_cell hz]; exact hzn
  have f0 : w.frozen? ⟨gz, oz, none⟩ = false := blk_frozen hz oz
  go_enter Tryz.func279, Tryz.ntmps279
  go_wp2_with fail
  go_rounds 1
  go_ret
  refine ⟨rfl, ?_⟩
  rw [u64_wrap, show ((x * 2 ^ s % 18446744073709551616 : Nat) : Int) = ((x : Int) * 2 ^ s) % 18446744073709551616 by simp]

theorem lshVU_one (gz oz cz gx cx s x : Nat) (w : World) (csz : Array Value) (hz : w.heap[gz]? = some (.cells csz 105 (0, 0))) (v0 : Value) (hzn : csz[oz]? = some v0) (hx : w.cell? ⟨gx, 0, none⟩ = some (.int .u64 (x : Int))) (hs : 1 ≤ s) (hs' : s ≤ 63) (hxb : x < 18446744073709551616) :
    Calls Tryz.prog 245 #[.slice (some ⟨gz, oz, none⟩) 1 cz, .slice (some ⟨gx, 0, none⟩) 1 cx, .int .u64 (s : Int)] w
      fun e w' => e = .returned (.int .u64 ((x / 2 ^ (64 - s) : Nat) : Int)) ∧ w' = w.setCell ⟨gz, oz, none⟩ (.int .u64 ((x * 2 ^ s % 18446744073709551616 : Nat) : Int)) := by
  have H := hid (lshVU_g_one gz oz cz gx cx s x w csz hz v0 hzn hx hs hs' hxb)
  clear hz hzn hx hxb
  generalize x / 2 ^ (64 - s) = a at *
  generalize x * 2 ^ s % 18446744073709551616 = b at *
  go_enter Tryz.func245, Tryz.ntmps245
  go_wp2_with fail
  refine H.out.mono ?_
  rintro e w1 ⟨rfl, rfl⟩
  go_wp2_with fail
  go_ret
  exact ⟨rfl, rfl⟩

/-! ### Cells laid one behind the other -/
theorem setCells_blk (g : Nat) (t : TypeId) : ∀ (vs : List Value) (o : Nat) (cs : Array Value) (w : World), w.heap[g]? = some (.cells cs t (0, 0)) → (w.setCells g o vs).heap[g]? = some (.cells (putV cs o vs) t (0, 0))
  | [], _, _, _, h => h
  | v :: vs, o, cs, w, h => setCells_blk g t vs (o + 1) _ _ (blk_set h o v)
theorem Fr.setCells {S : Nat → Prop} {a : World} (g : Nat) : ∀ (vs : List Value) (o : Nat) (w : World), Fr S a w → (g < a.heap.size → S g) → Fr S a (w.setCells g o vs)
  | [], _, _, h, _ => h
  | v :: vs, o, w, h, hp => Fr.setCells g vs (o + 1) _ (h.setCell (p := ⟨g, o, none⟩) hp v) hp
theorem zero105 (w : World) : (zeroValue 105).run Tryz.prog w = .ok (.int .u64 0) w := by kernel_rfl
def zeros (n : Nat) : List Value := List.replicate n (.int .u64 0)
/-- 'clear(z[0:n])' of a row of words. -/
theorem run_clear66 (g n c : Nat) (cs : Array Value) (ty : TypeId) (w : World) (hg : w.heap[g]? = some (.cells cs 105 (0, 0))) (hn : n ≤ cs.size) :
    (Builtin.clear_ #[66] ty #[.slice (some ⟨g, 0, none⟩) n c]).run Tryz.prog w = .ok (.tuple #[]) (w.setCells g 0 (zeros n)) := by
  by_cases h : n = 0
  · subst h
    simp [Builtin.clear_, run_underlying Tryz.underlying66, zeros, World.setCells]
  · exact Lib.run_clear_slice w 66 105 ty (.int .u64 0) Tryz.underlying66 zero105 rfl rfl g 0 n c (by omega)
      (fun j hj => by rw [blk_cell hg, Nat.zero_add, Array.getElem?_eq_getElem (by omega)]; rfl) (fun j hj => blk_frozen hg _)

theorem nval_pow (k t : Nat) : nval (List.replicate k 0 ++ [2 ^ t, 0]) = 2 ^ (64 * k + t) := by
  rw [nval_append, nval_zeros, List.length_replicate]
  simp [nval]
  rw [WB_eq, show (18446744073709551616 : Nat) = 2 ^ 64 from rfl, ← Nat.pow_mul, ← Nat.pow_add]
theorem pow_row (cs : Array Value) (k t : Nat) (hk : k + 2 ≤ cs.size) : ∀ (j x : Nat), (List.replicate k 0 ++ [2 ^ t, 0])[j]? = some x →
    (putV ((cs.setIfInBounds k (.int .u64 ((2 ^ t : Nat) : Int))).setIfInBounds (k + 1) (.int .u64 0)) 0 (zeros k))[j]? = some (.int .u64 (x : Int)) := by
  intro j x hj
  by_cases h : j < k
  · have := putV_get_in (zeros k) ((cs.setIfInBounds k (.int .u64 ((2 ^ t : Nat) : Int))).setIfInBounds (k + 1) (.int .u64 0)) 0 j (by simp [zeros]; omega) (by simp [zeros]; exact h)
    rw [Nat.zero_add] at this
    rw [this]
    rw [List.getElem?_append_left (by simp; exact h)] at hj
    simp [h] at hj
    subst hj
    simp [zeros, h]
  · rw [putV_get_out _ _ _ _ (.inr (by simp [zeros]; omega))]
    rw [List.getElem?_append_right (by simp; omega)] at hj
    simp only [List.length_replicate] at hj
    obtain ⟨i, rfl⟩ : ∃ i, j = k + i := ⟨j - k, by omega⟩
    rw [Nat.add_sub_cancel_left] at hj
    match i, hj with
    | 0, hj =>
      simp at hj; subst hj
      rw [Array.getElem?_setIfInBounds, if_neg (by omega), Array.getElem?_setIfInBounds, if_pos (by omega), if_pos (by omega)]
    | 1, hj =>
      simp at hj; subst hj
      rw [Array.getElem?_setIfInBounds, if_pos (by omega), if_pos (by simp; omega)]
      rfl
    | i + 2, hj => simp at hj

theorem limbs_one : limbs 1 = [1] := by rw [limbs_pos (by omega), Nat.mod_eq_of_lt (by decide), Nat.div_eq_of_lt (by decide), limbs_zero]
theorem pow_normed (k t : Nat) (ht : t ≤ 63) : normL (List.replicate k 0 ++ [2 ^ t, 0]) = limbs (2 ^ (64 * k + t)) := by
  rw [normL_limbs, nval_pow]
  intro x hx
  rcases List.mem_append.1 hx with h | h
  · rw [List.eq_of_mem_replicate h]; exact WB_pos
  · simp at h
    rcases h with rfl | rfl
    · have : 2 ^ t ≤ 2 ^ 63 := Nat.pow_le_pow_right (by omega) ht
      rw [WB_eq]; omega
    · exact WB_pos

set_option maxRecDepth 100000 in
set_option maxHeartbeats 1000000 in
theorem natLsh_one (g cap s : Nat) (w : World) (hx : NatAt w (.slice (some ⟨g, 0, none⟩) 1 cap) [1]) (hs : s ≤ 200) :
    Calls Tryz.prog 262 #[.slice (some ⟨g, 0, none⟩) 1 cap, .slice (some ⟨g, 0, none⟩) 1 cap, .int .u64 (s : Int)] w (NatRes w (.slice (some ⟨g, 0, none⟩) 1 cap) (2 ^ s)) := by
  by_cases h0 : s = 0
  · subst h0
    have N : NatRes w (.slice (some ⟨g, 0, none⟩) 1 cap) (2 ^ 0) (.returned (.slice (some ⟨g, 0, none⟩) 1 cap)) w := ⟨_, rfl, by rw [Nat.pow_zero, limbs_one]; exact hx, Fr.refl _ _, fun k h => .inl h⟩
    have fin : ∀ w1, Fr NoB w w1 → NatRes w (.slice (some ⟨g, 0, none⟩) 1 cap) (2 ^ 0) (.returned (.slice (some ⟨g, 0, none⟩) 1 cap)) w1 := fun w1 hF =>
      ⟨_, rfl, by rw [Nat.pow_zero, limbs_one]; exact hx.fr hF (fun _ _ h => h), hF.mono (fun _ _ h => h.elim), fun k h => .inl h⟩
    have FIN := hid fin
    clear N fin hx
    go_enter Tryz.func262, Tryz.ntmps262
    go_wp2_with fail
    refine (same_yes g 1 cap (by omega) w).mono ?_
    rintro e w1 ⟨rfl, hF⟩
    have N := hid (FIN.out w1 hF)
    clear hF
    go_wp2_with fail
    go_ret
    exact N.out
  · have s0 : ((s : Int) == 0) = false := beq_eq_false_iff_ne.2 (by omega)
    obtain ⟨k, hk⟩ : ∃ k, s / 64 = k := ⟨_, rfl⟩
    obtain ⟨t, ht⟩ : ∃ t, s % 64 = t := ⟨_, rfl⟩
    have ht63 : t ≤ 63 := by omega
    have hk3 : k ≤ 3 := by omega
    have hsk : s = 64 * k + t := by omega
    have he1 : (s : Int) / 64 = (k : Int) := by omega
    have he2 : (s : Int) % 64 = (t : Int) := by omega
    have HM := natMake (.slice (some ⟨g, 0, none⟩) 1 cap) [1] (k + 2) w hx (by omega) (by omega)
    rw [show ((k + 2 : Nat) : Int) = 1 + (k : Int) + 1 by omega] at HM
    have HM := hid HM
    have HX := hid hx
    obtain ⟨gx, capx, hxe, hxc, hxl, hxlt, hxm, _⟩ := hx.cell (by simp)
    cases hxe
    have HXC := hid (hxc 0 1 rfl)
    have HNR := hid (pow_normed k t ht63)
    rw [← hsk] at HNR
    clear hx hk ht hsk hxc
    have hal : Calls Tryz.prog 261 #[.slice (some ⟨g, 0, none⟩) 1 cap, .slice (some ⟨g, 0, none⟩) 1 cap] w (SaysB w true) := same_yes g 1 cap (by omega) w
    clear hal
    go_enter Tryz.func262, Tryz.ntmps262
    go_wp2_with fail
    refine HM.out.mono ?_
    clear HM
    rintro e w1 ⟨gz, capz, csz, rfl, hg, h1, h2, h3, hF, hgb⟩
    have HG := hid hg; have HF := hid hF; have HGB := hid hgb
    have hxc1 : w1.cell? ⟨g, 0, none⟩ = some (.int .u64 1) := hF.cell' HXC.out (fun h => h)
    obtain ⟨v0, hv0⟩ : ∃ u, csz[k]? = some u := ⟨_, Array.getElem?_eq_getElem (by omega)⟩
    obtain ⟨v1, hv1⟩ : ∃ u, csz[k + 1]? = some u := ⟨_, Array.getElem?_eq_getElem (by omega)⟩
    -- what is left once the two upper words stand
    have fin : ∀ (A : Array Value) (w2 : World), w2.heap[gz]? = some (.cells A 105 (0, 0)) → A = (csz.setIfInBounds k (.int .u64 ((2 ^ t : Nat) : Int))).setIfInBounds (k + 1) (.int .u64 0) → Fr (fun i => i = gz) w1 w2 →
        (∀ ty c, (Builtin.clear_ #[66] ty #[.slice (some ⟨gz, 0, none⟩) k c]).run Tryz.prog w2 = .ok (.tuple #[]) (w2.setCells gz 0 (zeros k))) ∧ NatAt (w2.setCells gz 0 (zeros k)) (.slice (some ⟨gz, 0, none⟩) (k + 2) capz) (List.replicate k 0 ++ [2 ^ t, 0]) ∧
        ∀ v' w3, Normed (w2.setCells gz 0 (zeros k)) (.slice (some ⟨gz, 0, none⟩) (k + 2) capz) (List.replicate k 0 ++ [2 ^ t, 0]) (.returned v') w3 → NatRes w (.slice (some ⟨g, 0, none⟩) 1 cap) (2 ^ s) (.returned v') w3 := by
      intro A w2 hA hAe hF2
      have hsz : A.size = csz.size := by rw [hAe]; simp
      refine ⟨fun ty c => run_clear66 gz k c A ty w2 hA (by omega), ?_, ?_⟩
      · refine .inr ⟨gz, capz, _, by simp, setCells_blk gz 105 _ 0 A w2 hA, by rw [putV_size]; omega, by simp; omega, h3, fun j x hj => ?_⟩
        rw [hAe]
        exact pow_row csz k t (by omega) j x hj
      · rintro v' w3 ⟨rfl, u, hu, k1, k2⟩
        cases hu
        rw [HNR.out] at k1
        refine ⟨_, rfl, k1, ?_, fun i hi => ?_⟩
        · have hF3 : Fr (fun i => i = gz) w1 (w2.setCells gz 0 (zeros k)) := Fr.setCells (S := fun i => i = gz) gz _ 0 w2 hF2 (fun _ => rfl)
          refine Fr.trans (HF.out.mono (fun _ _ h => h.elim)) hF3 (fun i hi h => ?_)
          subst h
          exact HGB.out.resolve_right (Nat.not_le.2 hi)
        · rw [k2] at hi
          cases hi
          exact HGB.out
    have FIN := hid fin
    clear fin hg hF hgb
    by_cases ht0 : t = 0
    · subst ht0
      have hsrc : ∀ (j : Nat) (u : Value), ([Value.int .u64 1] : List Value)[j]? = some u → w1.cell? ((⟨g, 0, none⟩ : Addr).add j) = some u := fun j u hj => by
        cases j with
        | zero => simp at hj; subst hj; rw [add_plain]; exact hxc1
        | succ j => simp at hj
      have hrow : (csz.toList.take k ++ Value.int .u64 1 :: csz.toList.drop (k + 1)).toArray = csz.setIfInBounds k (.int .u64 1) := by
        apply Array.ext'
        rw [Array.toList_setIfInBounds, List.set_eq_take_append_cons_drop, if_pos (by simp; omega)]
      have hn : (([Value.int .u64 1] : List Value)).length = Nat.min 1 (1 + k - (1 + k - 1)) := by rw [show 1 + k - (1 + k - 1) = 1 by omega]; rfl
      have h1c : ∀ u ∈ ([Value.int .u64 1] : List Value), u.oneCell' = true := fun u hu => by simp at hu; subst hu; rfl
      have HN := hid hn; have H1C := hid h1c; have HSR := hid hsrc; have HFT := hid (show 1 + k - 1 + ([Value.int .u64 1] : List Value).length ≤ csz.size by simp; omega)
      have HRW := hid hrow
      clear hsrc hrow hn h1c
      go_wp2_with (refine wpList_copy_own rfl (.tmp 46) (.tmp 47) 66 66 rfl 105 Tryz.underlying66 Tryz.size105 gz (1 + k - 1) (1 + k - (1 + k - 1)) (capz - (1 + k - 1)) ⟨g, 0, none⟩ 1 cap rfl rfl csz 105 HG.out [.int .u64 1] HN.out HSR.out HFT.out H1C.out ?_; refine Hid.out ?_)
      refine hid ?_
      rw [HRW.out]
      have hg2 : (w1.setRow gz (csz.setIfInBounds k (.int .u64 1))).heap[gz]? = some (.cells (csz.setIfInBounds k (.int .u64 1)) 105 (0, 0)) := setRow_heap w1 gz _ _ _ _ HG.out
      have hF2 : Fr (fun i => i = gz) w1 (w1.setRow gz (csz.setIfInBounds k (.int .u64 1))) := Fr.setRow (S := fun i => i = gz) (Fr.refl _ _) (fun _ => rfl) _
      generalize w1.setRow gz (csz.setIfInBounds k (.int .u64 1)) = w2 at *
      have hg3 := blk_set hg2 (1 + k) (.int .u64 0)
      have hF3 : Fr (fun i => i = gz) w1 (w2.setCell ⟨gz, 1 + k, none⟩ (.int .u64 0)) := Fr.setCell (S := fun i => i = gz) (p := ⟨gz, 1 + k, none⟩) hF2 (fun _ => rfl) _
      obtain ⟨hcl, hat, hfin⟩ := FIN.out _ _ hg3 (by rw [Nat.add_comm 1 k]; rfl) hF3
      have HN2 := hid (natNorm _ _ _ hat)
      have HFI := hid hfin
      have k1 : w2.cell? ⟨gz, 1 + k, none⟩ = some v1 := by
        rw [blk_cell hg2, Array.getElem?_setIfInBounds, if_neg (by omega), Nat.add_comm 1 k]; exact hv1
      have f1 : w2.frozen? ⟨gz, 1 + k, none⟩ = false := blk_frozen hg2 _
      clear hg2 hg3 hF2 hF3 hat hfin hv0 hv1 HRW HSR HN H1C HFT
      go_wp2_with (simp only [hcl])
      refine HN2.out.mono ?_
      rintro e w3 ⟨hw, v', rfl, k1, k2⟩
      have N := hid (HFI.out v' w3 ⟨hw, v', rfl, k1, k2⟩)
      clear hw k1 k2
      go_wp2_with fail
      go_ret
      exact N.out
    · have t0 : ((t : Int) == 0) = false := beq_eq_false_iff_ne.2 (by omega)
      have HL := lshVU_one gz k (capz - k) g cap t 1 w1 csz HG.out v0 hv0 hxc1 (by omega) ht63 (by omega)
      have q1 : 1 / 2 ^ (64 - t) = 0 := Nat.div_eq_of_lt (Nat.one_lt_two_pow (by omega))
      have q2 : 1 * 2 ^ t % 18446744073709551616 = 2 ^ t := by
        have : 2 ^ t ≤ 2 ^ 63 := Nat.pow_le_pow_right (by omega) ht63
        rw [Nat.one_mul, Nat.mod_eq_of_lt (by omega)]
      rw [q1, q2, show ((0 : Nat) : Int) = 0 from rfl] at HL
      have HL := hid HL
      have hg2 := blk_set HG.out k (.int .u64 ((2 ^ t : Nat) : Int))
      have hg3 := blk_set hg2 (1 + k) (.int .u64 0)
      have hF3 : Fr (fun i => i = gz) w1 ((w1.setCell ⟨gz, k, none⟩ (.int .u64 ((2 ^ t : Nat) : Int))).setCell ⟨gz, 1 + k, none⟩ (.int .u64 0)) :=
        Fr.setCell (S := fun i => i = gz) (p := ⟨gz, 1 + k, none⟩) (Fr.setCell (S := fun i => i = gz) (p := ⟨gz, k, none⟩) (Fr.refl _ _) (fun _ => rfl) _) (fun _ => rfl) _
      obtain ⟨hcl, hat, hfin⟩ := FIN.out _ _ hg3 (by rw [Nat.add_comm 1 k]) hF3
      have HN := hid (natNorm _ _ _ hat)
      have HFI := hid hfin
      have k1 : (w1.setCell ⟨gz, k, none⟩ (.int .u64 ((2 ^ t : Nat) : Int))).cell? ⟨gz, 1 + k, none⟩ = some v1 := by
        rw [blk_cell hg2, Array.getElem?_setIfInBounds, if_neg (by omega), Nat.add_comm 1 k]; exact hv1
      have f1 : (w1.setCell ⟨gz, k, none⟩ (.int .u64 ((2 ^ t : Nat) : Int))).frozen? ⟨gz, 1 + k, none⟩ = false := blk_frozen hg2 _
      clear hg2 hg3 hF3 hat hfin q1 q2 hv0 hv1
      generalize 2 ^ t = pt at *
      go_wp2_with fail
      refine HL.out.mono ?_
      rintro e w2 ⟨rfl, rfl⟩
      go_wp2_with (simp only [hcl])
      refine HN.out.mono ?_
      rintro e w3 ⟨hw, v', rfl, k1, k2⟩
      have N := hid (HFI.out v' w3 ⟨hw, v', rfl, k1, k2⟩)
      clear hw k1 k2
      go_wp2_with fail
      go_ret
      exact N.out
end Go.Proofs.YteokhhepnoelhaaGreatDoor
