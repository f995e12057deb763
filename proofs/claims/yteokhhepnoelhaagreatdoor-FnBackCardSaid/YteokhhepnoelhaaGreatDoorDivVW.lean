/-
  divWVW: a row of words by a word.
-/
import Derived.Test.YteokhhepnoelhaaGreatDoorDivWW
import Derived.Test.YteokhhepnoelhaaGreatDoorDivW
set_option linter.unusedVariables false
set_option linter.unusedSimpArgs false
namespace Go.Proofs.YteokhhepnoelhaaGreatDoor
open Go.RowKit

/-- divWW divides by y, given the reciprocal rec. -/
def DivOk (y rec : Nat) : Prop := ∀ (x1 x0 : Nat) (w : World), x1 < y → x0 < 18446744073709551616 →
  Calls Tryz.prog 273 #[.int .u64 (x1 : Int), .int .u64 (x0 : Int), .int .u64 (y : Int), .int .u64 (rec : Int)] w
      fun e w' => e = .returned (.tuple #[.int .u64 (((x1 * 18446744073709551616 + x0) / y : Nat) : Int), .int .u64 (((x1 * 18446744073709551616 + x0) % y : Nat) : Int)]) ∧ w = w'
def RecOk (y rec : Nat) : Prop := ∀ w : World, Calls Tryz.prog 272 #[.int .u64 (y : Int)] w fun e w' => e = .returned (.int .u64 (rec : Int)) ∧ Fr NoB w w'

/-- The words of a quotient as they stand: from k on; below k the row is as it was. -/
def QuoAt (w : World) (g : Nat) (csz : Array Value) (zs : List Nat) (k : Nat) : Prop :=
  ∃ cs, w.heap[g]? = some (.cells cs 105 (0, 0)) ∧ cs.size = csz.size ∧ (∀ (j z : Nat), k ≤ j → zs[j]? = some z → cs[j]? = some (.int .u64 (z : Int))) ∧ ∀ j, j < k → cs[j]? = csz[j]?

theorem QuoAt.step {w : World} {g : Nat} {csz : Array Value} {zs : List Nat} {k z : Nat} (h : QuoAt w g csz zs (k + 1)) (hz : zs[k]? = some z) (hk : k < csz.size) :
    QuoAt (w.setCell ⟨g, k, none⟩ (.int .u64 (z : Int))) g csz zs k := by
  obtain ⟨cs, h1, h2, h3, h4⟩ := h
  refine ⟨_, blk_set h1 k _, by rw [Array.size_setIfInBounds]; exact h2, fun j u hj hu => ?_, fun j hj => ?_⟩
  · rw [Array.getElem?_setIfInBounds]
    by_cases e : k = j
    · subst e
      rw [hz] at hu
      cases hu
      rw [if_pos rfl, if_pos (by omega)]
    · rw [if_neg e]
      exact h3 j u (by omega) hu
  · rw [Array.getElem?_setIfInBounds, if_neg (by omega)]
    exact h4 j (by omega)

set_option maxRecDepth 100000 in
set_option maxHeartbeats 1000000 in
theorem divWVW_any (gz cz gx cx : Nat) (csz : Array Value) (xs : List Nat) (y rec : Nat) (w : World)
    (hz : w.heap[gz]? = some (.cells csz 105 (0, 0))) (hzn : xs.length ≤ csz.size) (hx : ∀ (j x : Nat), xs[j]? = some x → w.cell? ⟨gx, j, none⟩ = some (.int .u64 (x : Int)))
    (hb : ∀ x ∈ xs, x < 18446744073709551616) (hy : 0 < y) (hy' : y < 18446744073709551616) (hR : RecOk y rec) (hD : DivOk y rec) (hrec : rec < 18446744073709551616) (hl : 1 ≤ xs.length) (hlen : xs.length ≤ 1000000) :
    Calls Tryz.prog 240 #[.slice (some ⟨gz, 0, none⟩) xs.length cz, .int .u64 0, .slice (some ⟨gx, 0, none⟩) xs.length cx, .int .u64 (y : Int)] w
      fun e w' => e = .returned (.int .u64 ((nval xs % y : Nat) : Int)) ∧ QuoAt w' gz csz (divZ xs y) 0 ∧ Fr (fun i => i = gz) w w' := by
  have HZ := hid hz; have HX := hid hx; have HB := hid hb; have HR := hid hR; have HD := hid hD
  clear hz hx hb hR hD
  by_cases h1 : xs.length = 1
  · obtain ⟨x, rfl⟩ : ∃ x, xs = [x] := List.length_eq_one_iff.1 h1
    have hxb : x < 18446744073709551616 := HB.out x (by simp)
    have c0 := HX.out 0 x rfl
    obtain ⟨v0, hv0⟩ : ∃ u, csz[0]? = some u := ⟨_, Array.getElem?_eq_getElem (by simp at hzn; omega)⟩
    have hq : QuoAt w gz csz (divZ [x] y) 1 := ⟨csz, HZ.out, rfl, fun j z hj hh => by
      have := (List.getElem?_eq_some_iff.1 hh).1
      rw [divZ_length] at this
      simp at this; omega, fun j _ => rfl⟩
    have hdz : divZ [x] y = [x / y] := by simp [divZ, nval]
    have hnv : nval [x] % y = x % y := by simp [nval]
    have HQ := hid hq; have HDZ := hid hdz; have HNV := hid hnv
    have HK := hid (bitsDiv_zero x y hxb hy hy')
    clear hq hdz hnv h1
    rw [show ([x] : List Nat).length = 1 from rfl] at *
    go_enter Tryz.func240, Tryz.ntmps240
    go_wp2_with fail
    refine (HK.out _).mono ?_
    rintro e w1 ⟨rfl, hF⟩
    obtain ⟨cs, q1, q2, q3, q4⟩ := HQ.out
    have hz1 := hF.blk HZ.out (fun h => h)
    have k0 : w1.cell? ⟨gz, 0, none⟩ = some v0 := by rw [blk_cell hz1]; exact hv0
    have f0 : w1.frozen? ⟨gz, 0, none⟩ = false := blk_frozen hz1 0
    have hq1 : QuoAt w1 gz csz (divZ [x] y) (0 + 1) := ⟨cs, hF.blk q1 (fun h => h), q2, q3, q4⟩
    have hqs := hq1.step (z := x / y) (by rw [HDZ.out]; rfl) (by omega)
    have HQS := hid hqs
    have HF := hid hF
    clear hqs hq1 hF q1 q2 q3 q4
    go_wp2_with fail
    go_ret
    refine ⟨by rw [HNV.out]; rfl, HQS.out, ?_⟩
    exact Fr.setCell (S := fun i => i = gz) (p := ⟨gz, 0, none⟩) (HF.out.mono (fun _ _ h => h.elim)) (fun _ => rfl) _
  · have hl1 : ((xs.length : Int) == 1) = false := by simp; omega
    go_enter Tryz.func240, Tryz.ntmps240
    go_wp2_with fail
    refine (HR.out _).mono ?_
    rintro e w1 ⟨rfl, hF⟩
    have HF := hid hF
    clear hF
    have hq0 : QuoAt w1 gz csz (divZ xs y) xs.length := ⟨csz, HF.out.blk HZ.out (fun h => h), rfl, fun j z hj hh => by
      have := (List.getElem?_eq_some_iff.1 hh).1
      rw [divZ_length] at this
      omega, fun j _ => rfl⟩
    have HQ0 := hid hq0
    clear hq0
    go_wp2_with fail
    go_loopw [8, 12] (fun r i wr => ∃ k : Nat, k ≤ xs.length ∧ i = .int .i64 ((k : Int) - 1) ∧ r = .int .u64 ((nval (xs.drop k) % y : Nat) : Int) ∧ Hid (QuoAt wr gz csz (divZ xs y) k) ∧ Hid (Fr (fun i => i = gz) w wr)) (fun _ i _ => (intOf i + 1).toNat)
    case atStart => exact ⟨xs.length, Nat.le_refl _, rfl, by simp [nval], HQ0, hid (HF.out.mono (fun _ _ h => h.elim))⟩
    case round =>
      obtain ⟨k, hk, rfl, rfl, hQ, hFr⟩ := hrel
      by_cases h0 : k = 0
      · subst h0
        have hd0 : xs.drop 0 = xs := List.drop_zero
        rw [hd0]
        clear hd0
        go_wp2_with fail
        go_ret
        exact ⟨rfl, hQ.out, hFr.out⟩
      · obtain ⟨j, rfl⟩ : ∃ j, k = j + 1 := ⟨k - 1, by omega⟩
        rw [show (((j + 1 : Nat) : Int)) - 1 = (j : Int) by omega]
        obtain ⟨x, hxj⟩ : ∃ x, xs[j]? = some x := ⟨xs[j], List.getElem?_eq_getElem (by omega)⟩
        have hxb : x < 18446744073709551616 := HB.out x (List.mem_of_getElem? hxj)
        obtain ⟨cs, q1, q2, q3, q4⟩ := hQ.out
        have hcell : wr.cell? ⟨gx, j, none⟩ = some (.int .u64 (x : Int)) := by
          by_cases e : gx = gz
          · subst e
            rw [blk_cell q1, q4 j (by omega), ← blk_cell HZ.out]
            exact HX.out j x hxj
          · exact hFr.out.cell' (HX.out j x hxj) e
        obtain ⟨v0, hv0⟩ : ∃ u, cs[j]? = some u := ⟨_, Array.getElem?_eq_getElem (by omega)⟩
        have k0 : wr.cell? ⟨gz, j, none⟩ = some v0 := by rw [blk_cell q1]; exact hv0
        have f0 : wr.frozen? ⟨gz, j, none⟩ = false := blk_frozen q1 j
        have hget := divZ_get xs y j x hxj
        have hnext : nval (xs.drop j) % y = ((nval (xs.drop (j + 1)) % y) * WB + x) % y := by rw [nval_drop xs j x hxj, nval_cons_mod]
        rw [WB_eq] at hget hnext
        have hrl : nval (xs.drop (j + 1)) % y < y := Nat.mod_lt _ hy
        have HN := hid hnext
        have HK := HD.out (nval (xs.drop (j + 1)) % y) x wr hrl hxb
        clear hnext hxj q1 q2 q3 q4 hv0
        generalize nval (xs.drop (j + 1)) % y = rr at *
        have hrest : (rr * 18446744073709551616 + x) % y < y := Nat.mod_lt _ hy
        generalize (rr * 18446744073709551616 + x) % y = r2 at *
        generalize (rr * 18446744073709551616 + x) / y = q at *
        have HST := hid (hQ.out.step hget (by omega))
        have HK := hid HK
        clear hget
        go_wp2_with fail
        refine HK.out.mono ?_
        rintro e w2 ⟨rfl, rfl⟩
        go_wp2_with fail
        go_roundw
        case rel => exact ⟨j, by omega, by go_num, by rw [HN.out], hid HST.out, hid (Fr.setCell (S := fun i => i = gz) (p := ⟨gz, j, none⟩) hFr.out (fun _ => rfl) _)⟩
        case measure => simp [intOf]

/-- What divW gives: the quotient in z's own block or a new one, and the rest. -/
def DivRes (w : World) (v : Value) (X y : Nat) (e : Ending) (w' : World) : Prop :=
  ∃ v', e = .returned (.tuple #[v', .int .u64 ((X % y : Nat) : Int)]) ∧ NatAt w' v' (limbs (X / y)) ∧ Fr (fun i => natBlk v = some i) w w' ∧ ∀ g, natBlk v' = some g → natBlk v = some g ∨ w.heap.size ≤ g

theorem QuoAt.nat {w : World} {g cap : Nat} {csz : Array Value} {X y : Nat} (h : QuoAt w g csz (divZ (limbs X) y) 0) (h1 : cap ≤ csz.size) (h2 : (limbs X).length ≤ cap) (h3 : cap ≤ 1000000) :
    NatAt w (.slice (some ⟨g, 0, none⟩) (limbs X).length cap) (divZ (limbs X) y) := by
  obtain ⟨cs, q1, q2, q3, q4⟩ := h
  exact .inr ⟨g, cap, cs, by rw [divZ_length], q1, by omega, by rw [divZ_length]; exact h2, h3, fun j x hj => q3 j x (Nat.zero_le _) hj⟩

set_option maxRecDepth 100000 in
set_option maxHeartbeats 1000000 in
theorem natDivW (v vx : Value) (zs : List Nat) (X y rec : Nat) (w : World) (hv : NatAt w v zs) (hvx : NatAt w vx (limbs X)) (hy : 2 ≤ y) (hy' : y < 18446744073709551616) (hR : RecOk y rec) (hD : DivOk y rec) (hrec : rec < 18446744073709551616) (hl : (limbs X).length ≤ 900) :
    Calls Tryz.prog 208 #[v, vx, .int .u64 (y : Int)] w (DivRes w v X y) := by
  have HV := hid hv; have HR := hid hR; have HD := hid hD
  have y0 : ((y : Int) == 0) = false := by simp; omega
  have y1 : ((y : Int) == 1) = false := by simp; omega
  rcases hvx with ⟨rfl, hx0⟩ | ⟨gx, capx, csx, rfl, hgx, x1, x2, x3, x4⟩
  · have hX : X = 0 := limbs_nil.1 hx0
    subst hX
    clear hR hD hx0
    have hd : (0 : Nat) / y = 0 := Nat.zero_div y
    have hm : (0 : Nat) % y = 0 := Nat.zero_mod y
    rcases hv with ⟨rfl, rfl⟩ | ⟨g, cap, cs, rfl, hg, h1, h2, h3, h4⟩
    · have N : DivRes w (.slice none 0 0) 0 y (.returned (.tuple #[.slice none 0 0, .int .u64 0])) w := ⟨_, by rw [hm]; rfl, by rw [hd, limbs_zero]; exact NatAt.nil w, Fr.refl _ _, fun g h => by cases h⟩
      have N := hid N
      clear hd hm
      go_enter Tryz.func208, Tryz.ntmps208
      go_wp2_with fail
      go_ret2
      exact N.out
    · have N : DivRes w (.slice (some ⟨g, 0, none⟩) zs.length cap) 0 y (.returned (.tuple #[.slice (some ⟨g, 0, none⟩) 0 cap, .int .u64 0])) w :=
        ⟨.slice (some ⟨g, 0, none⟩) 0 cap, by rw [hm]; rfl, by rw [hd, limbs_zero]; exact .inr ⟨g, cap, cs, rfl, hg, h1, Nat.zero_le _, h3, by simp⟩, Fr.refl _ _, fun k h => .inl h⟩
      have N := hid N
      clear hd hm hg h4
      go_enter Tryz.func208, Tryz.ntmps208
      go_wp2_with fail
      go_ret2
      exact N.out
  · by_cases hX : X = 0
    · subst hX
      have hl0 : (limbs 0).length = 0 := by rw [limbs_zero]; rfl
      rw [hl0] at *
      clear hR hD hgx x4 hl0
      have hd : (0 : Nat) / y = 0 := Nat.zero_div y
      have hm : (0 : Nat) % y = 0 := Nat.zero_mod y
      rcases hv with ⟨rfl, rfl⟩ | ⟨g, cap, cs, rfl, hg, h1, h2, h3, h4⟩
      · have N : DivRes w (.slice none 0 0) 0 y (.returned (.tuple #[.slice none 0 0, .int .u64 0])) w := ⟨_, by rw [hm]; rfl, by rw [hd, limbs_zero]; exact NatAt.nil w, Fr.refl _ _, fun g h => by cases h⟩
        have N := hid N
        clear hd hm
        go_enter Tryz.func208, Tryz.ntmps208
        go_wp2_with fail
        go_ret2
        exact N.out
      · have N : DivRes w (.slice (some ⟨g, 0, none⟩) zs.length cap) 0 y (.returned (.tuple #[.slice (some ⟨g, 0, none⟩) 0 cap, .int .u64 0])) w :=
          ⟨.slice (some ⟨g, 0, none⟩) 0 cap, by rw [hm]; rfl, by rw [hd, limbs_zero]; exact .inr ⟨g, cap, cs, rfl, hg, h1, Nat.zero_le _, h3, by simp⟩, Fr.refl _ _, fun k h => .inl h⟩
        have N := hid N
        clear hd hm hg h4
        go_enter Tryz.func208, Tryz.ntmps208
        go_wp2_with fail
        go_ret2
        exact N.out
    · have hlen1 : 1 ≤ (limbs X).length := by
        have : limbs X ≠ [] := fun hh => hX (limbs_nil.1 hh)
        have : (limbs X).length ≠ 0 := fun hh => this (List.length_eq_zero_iff.1 hh)
        omega
      have hm1 : (((limbs X).length : Int) == 0) = false := beq_eq_false_iff_ne.2 (by omega)
      have HGX := hid hgx; have X4 := hid x4
      have HLB : Hid (∀ x ∈ limbs X, x < 18446744073709551616) := hid (limbs_lt X)
      have HNV := hid (nval_limbs X)
      have HND := hid (normL_divZ X y (by omega))
      have HQN := hid (fun (w : World) (g cap : Nat) (csz : Array Value) (h : QuoAt w g csz (divZ (limbs X) y) 0) (h1 : cap ≤ csz.size) (h2 : (limbs X).length ≤ cap) (h3 : cap ≤ 1000000) => QuoAt.nat h h1 h2 h3)
      clear hv hR hD hgx x4 hX
      generalize limbs X = xs at *
      go_enter Tryz.func208, Tryz.ntmps208
      go_wp2_with fail
      have HM := hid (natMake v zs xs.length w HV.out (by omega) (by omega))
      refine HM.out.mono ?_
      clear HM
      rintro e w1 ⟨g, cap, cs, rfl, hg, h1, h2, h3, hF, hgb⟩
      have hgx1 := hF.blk HGX.out (fun h => h)
      have HC := hid (divWVW_any g cap gx capx cs xs y rec w1 hg (by omega) (fun j x hj => by rw [blk_cell hgx1]; exact X4.out j x hj) HLB.out (by omega) hy' HR.out HD.out hrec hlen1 (by omega))
      have HF := hid hF; have HGB := hid hgb
      clear hF hgb hgx1 hg
      go_wp2_with fail
      refine HC.out.mono ?_
      clear HC
      rintro e w2 ⟨rfl, hq2, hF2⟩
      have hat := HQN.out w2 g cap cs hq2 h1 h2 h3
      have hFw : Fr (fun i => natBlk v = some i) w w2 := by
        refine Fr.trans (Fr.mono HF.out (fun _ _ h => h.elim)) hF2 (fun i hi h => ?_)
        subst h
        exact HGB.out.resolve_right (Nat.not_le.2 hi)
      have HN := hid (natNorm _ _ _ hat)
      have fin : ∀ v' w3, Normed w2 (.slice (some ⟨g, 0, none⟩) xs.length cap) (divZ xs y) (.returned v') w3 → DivRes w v X y (.returned (.tuple #[v', .int .u64 ((nval xs % y : Nat) : Int)])) w3 := by
        rintro v' w3 ⟨rfl, u, hu, k1, k2⟩
        cases hu
        refine ⟨_, by rw [HNV.out], by rw [← HND.out]; exact k1, hFw, fun k hk => ?_⟩
        rw [k2] at hk
        cases hk
        exact HGB.out
      have FIN := hid fin
      clear hat hFw fin hq2 hF2
      generalize nval xs % y = rr at *
      go_wp2_with fail
      refine HN.out.mono ?_
      rintro e w3 ⟨hw, v', rfl, k1, k2⟩
      have N := hid (FIN.out v' w3 ⟨hw, v', rfl, k1, k2⟩)
      clear hw k1 k2
      go_wp2_with fail
      go_ret2
      exact N.out
end Go.Proofs.YteokhhepnoelhaaGreatDoor
