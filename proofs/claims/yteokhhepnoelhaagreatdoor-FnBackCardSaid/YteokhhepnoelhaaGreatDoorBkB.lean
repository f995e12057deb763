/-
  strconv.AppendInt of a number that is not negative, onto a buffer of ours.
-/
import Derived.Test.YteokhhepnoelhaaGreatDoorBkA
import Derived.Test.YteokhhepnoelhaaGreatDoorRefCalls
import Derived.Test.YteokhhepnoelhaaGreatDoorPrefix
import Derived.Test.YteokhhepnoelhaaGreatDoorItoa
import Derived.Test.YteokhhepnoelhaaGreatDoorLsh
import Derived.Deep.Upon
import Derived.Deep.RegionLaw
import Derived.Shelf.Strconv.AppendIntPublic10

set_option linter.unusedVariables false
set_option linter.unusedSimpArgs false
namespace Go.Proofs.YteokhhepnoelhaaGreatDoor
open Go.RowKit Go.Proofs.YteokhhepnoelhaaGreatDoorW.PrintWords

theorem CW.cellAt {w : World} {A : Option Addr} {n c : Nat} {ws : List Nat} (h : CW w A n c ws) (k x : Nat) (hk : ws[k]? = some x) : ∃ ad, A = some ad ∧ w.cell? (ad.add k) = some (.int .u64 (x : Int)) := by
  obtain ⟨e, hc, hl, hm, hr⟩ := h
  have hkl : k < ws.length := (List.getElem?_eq_some_iff.1 hk).1
  obtain ⟨ad, e2, hcell⟩ := hr (by omega)
  obtain ⟨cs, h1, h2, h3⟩ := hcell k (x : Int) (by simp [zs, hk])
  refine ⟨ad, e2, ?_⟩
  have h2 : cs = [.int .u64 (x : Int)] := h2
  have := h3 0 (.int .u64 (x : Int)) (by rw [h2]; rfl)
  have hsz : (Kd.int .u64).sz = 1 := rfl
  rw [hsz] at this
  simpa using this

theorem own_src {w : World} {B n : Nat} {v : Value} {ws : List Nat} (h : w.ownsRow B 105 1 v n (u64s ws)) : NatSrc w v ws ∧ ∀ g, natBlk v = some g → B ≤ g := by
  have hn : n = ws.length := by have := h.1; rw [u64s_length] at this; omega
  subst hn
  rcases h.2 with ⟨rfl, h0⟩ | ⟨g, cap, cur, rfl, hB, hg, h1, h2, r⟩
  · have : ws = [] := List.eq_nil_of_length_eq_zero h0
    subst this
    exact ⟨NatSrc.nil w, fun g h => by cases h⟩
  · refine ⟨.inr ⟨g, cap, cur, rfl, hg, ?_, h1, fun j x hj => ?_⟩, fun k hk => by cases hk; exact hB⟩
    · have h3 := r.1; omega
    · have := World.ownsRow.cellAt (g := g) (cap := cap) h j (by have := (List.getElem?_eq_some_iff.1 hj).1; omega)
      rw [blk_cell hg] at this
      rw [this, u64s_get, hj]
      rfl

def WholeRes (w : World) (V : Nat) (e : Ending) (w' : World) : Prop :=
  ∃ Z v, e = .returned (.pointer (some ⟨Z, 0, none⟩)) ∧ w.heap.size ≤ Z ∧ BlkAt w' Z #[.bool false, v, .bool false] 70 ∧ NatAt w' v (limbs V) ∧ (∀ g, natBlk v = some g → w.heap.size ≤ g ∧ g ≠ Z) ∧ Fr NoB w w'

set_option maxRecDepth 100000 in
set_option maxHeartbeats 2000000 in
theorem implWhole (A : Option Addr) (n c : Nat) (ws : List Nat) (w : World) (hX : CW w A n c ws) (hl : ws.length ≤ 900) (hb : ∀ x ∈ ws, x < WB) :
    Calls Tryz.prog 47 #[.slice A n c] w (WholeRes w (nval ws)) := by
  obtain ⟨i0, hi, hzz⟩ := Option.map_eq_some_iff.1 Tryz.info105
  simp only [Prod.mk.injEq] at hzz
  obtain ⟨hz0, hz1, hz2⟩ := hzz
  have HI := hid hi
  have hn : n = ws.length := hX.1
  have HX := hid hX
  have HBD := hid hb
  have HN := hid hn
  have hn9 : n ≤ 900 := by omega
  clear hi hX hb hn hl
  go_enter Tryz.func47, Tryz.ntmps47
  go_wp2_with fail
  have H0 : Hid (w.ownsRow w.heap.size 105 1 (.slice none 0 0) 0 (u64s (ws.take 0))) := hid ⟨by simp [u64s], .inl ⟨rfl, rfl⟩⟩
  go_loopw [3, 8] (fun o i wr => ∃ (k : Nat) (ov : Value), ov = o ∧ k ≤ n ∧ i = .int .i64 k ∧ Hid (wr.ownsRow w.heap.size 105 1 ov k (u64s (ws.take k))) ∧ Hid (Below w.heap.size w wr)) (fun _ i _ => n - (intOf i).toNat)
  case atStart => exact ⟨0, _, rfl, Nat.zero_le _, rfl, H0, hid (Below.refl _ _)⟩
  case round =>
    obtain ⟨k, ov, rfl, hk, rfl, hO, hB⟩ := hrel
    by_cases hlt : k < n
    · obtain ⟨x, hxk⟩ : ∃ x, ws[k]? = some x := ⟨ws[k]'(by have := HN.out; omega), List.getElem?_eq_getElem _⟩
      obtain ⟨ad, rfl, hc⟩ := HX.out.cellAt k x hxk
      have hFr : Fr NoB w wr := Fr.of_below hB.out _
      have hcell : wr.cell? (ad.add k) = some (.int .u64 (x : Int)) := hFr.cell' hc (fun h => h)
      have htk : u64s (ws.take (k + 1)) = u64s (ws.take k) ++ [.int .u64 (x : Int)] := by
        rw [List.take_add_one, hxk, u64s_append]; rfl
      have HTK := hid htk
      have hbs : w.heap.size ≤ wr.heap.size := hB.out.size
      clear hxk hc htk hFr
      go_wp2_with (at_builtin; refine wpList_append_own _ rfl (.tmp 12) (.tmp 14) 65 rfl w.heap.size 105 i0 (.int .u64 0) 1 8 Tryz.underlying65 HI.out hz0 hz1 hz2 rfl (by decide) ov k (u64s (ws.take k)) rfl (hO.out.alloc _) ⟨wr.heap.size, 0, none⟩ 1 1 [.int .u64 (x : Int)] rfl rfl (cell_one_new _ _ _) (by simp [Value.oneCell']) (by unfold maxLen; omega) (by omega) (by simp; omega) ?_; intro v' w5 hown hgr _; refine Hid.out ?_)
      refine hid ?_
      rw [← HTK.out] at hown
      have HB5 : Hid (Below w.heap.size w w5) := hid ((hB.out.alloc hbs _).grown hgr (by simp; omega) (by
        obtain ⟨_, h | ⟨g', cap', cur', h, h2, _⟩⟩ := hO.out
        · rw [h.1]; intro b hb; cases hb
        · rw [h]; intro b hb; cases hb; exact h2))
      have HO5 := hid hown
      clear hown hgr
      go_wp2_with fail
      go_roundw
      case rel => first | exact ⟨k + 1, _, rfl, by omega, by go_num, HO5, HB5⟩ | ((repeat apply Exists.intro); exact ⟨⟨k + 1, _, rfl, by omega, by go_num, HO5, HB5⟩, rfl⟩)
      case measure => simp [intOf]; omega
    · obtain rfl : k = n := by omega
      have hO2 := hO.out
      have hkw : ws.take k = ws := by rw [HN.out, List.take_length]
      rw [hkw] at hO2
      obtain ⟨hS, hSg⟩ := own_src hO2
      have HFw : Hid (Fr NoB w wr) := hid (Fr.of_below hB.out NoB)
      have hsw := HFw.out.size
      have HZ : Hid (BlkAt ((wr.alloc (.cells #[.bool false, .slice none 0 0, .bool false] 70)).alloc (.cells #[.bool false, .slice none 0 0] 68)) wr.heap.size #[.bool false, .slice none 0 0, .bool false] 70) := hid (blk_alloc (blk_new wr _) _)
      have HC : Hid (BlkAt ((wr.alloc (.cells #[.bool false, .slice none 0 0, .bool false] 70)).alloc (.cells #[.bool false, .slice none 0 0] 68)) (wr.heap.size + 1) #[.bool false, .slice none 0 0] 68) := hid (by
        have := blk_new (wr.alloc (.cells #[.bool false, .slice none 0 0, .bool false] 70)) (.cells #[.bool false, .slice none 0 0] 68 (0, 0))
        rw [World.size_alloc] at this
        exact this)
      have HF2 : Hid (Fr NoB wr ((wr.alloc (.cells #[.bool false, .slice none 0 0, .bool false] 70)).alloc (.cells #[.bool false, .slice none 0 0] 68))) := hid (((Fr.refl _ _).alloc _).alloc _)
      have hlt2 : ∀ g, natBlk ov = some g → g < wr.heap.size := fun g hg => by
        rcases hS with ⟨rfl, _⟩ | ⟨g', cap, cs, rfl, h3, _⟩
        · cases hg
        · cases hg; exact blk_lt h3
      have hSB := setBits (wr.heap.size + 1) ov ws ((wr.alloc (.cells #[.bool false, .slice none 0 0, .bool false] 70)).alloc (.cells #[.bool false, .slice none 0 0] 68)) HC.out (hS.fr HF2.out (fun _ _ h => h)) (by have := HN.out; omega) (fun g hg => by have := hlt2 g hg; omega)
      have HSB := hid hSB
      have HLT2 := hid hlt2; have HSG := hid hSg
      clear hO2 hS hSB hlt2 hSg hlt hk hkw
      go_wp2_with fail
      generalize ((wr.alloc (.cells #[.bool false, .slice none 0 0, .bool false] 70)).alloc (.cells #[.bool false, .slice none 0 0] 68)) = W2 at *
      refine HSB.out.mono ?_
      rintro e w3 ⟨rfl, v3, r1, r2, r3, r4⟩
      have HM := hid (setMathBigInt wr.heap.size (wr.heap.size + 1) v3 (normL ws) w3 (r4.blk HZ.out (by omega)) r1 (by omega) r2 (by have := normL_length ws; have := HN.out; omega) (fun g hg => by rw [r3] at hg; have := HLT2.out g hg; omega))
      have HF3 : Hid (Fr NoB w w3) := hid ((HFw.out.trans HF2.out (fun _ _ h => h)).trans r4 (fun i hi h => by have h : i = wr.heap.size + 1 := h; omega))
      have hs3 : wr.heap.size + 1 < w3.heap.size := blk_lt r1
      clear r1 r2 r3 r4
      go_wp2_with fail
      refine HM.out.mono ?_
      rintro e w4 ⟨rfl, v4, r1, r2, r3, r4⟩
      rw [normL_limbs ws HBD.out] at r2
      have N := hid (show WholeRes w (nval ws) (.returned (.pointer (some ⟨wr.heap.size, 0, none⟩))) w4 from ⟨wr.heap.size, v4, rfl, hsw, r1, r2, fun g hg => by have := r3 g hg; have := HF3.out.size; omega, HF3.out.trans r4 (fun i hi h => by have h : i = wr.heap.size := h; omega)⟩)
      clear r1 r2 r3 r4
      go_wp2_with fail
      go_ret
      exact N.out

set_option maxRecDepth 100000 in
set_option maxHeartbeats 2000000 in
theorem bigSetDec (D Z : Nat) (neg : Bool) (e0 : Int) (vz : Value) (xs : List Nat) (w : World) (hD : DecAt w D 0 neg e0 false (.slice none 0 0) false) (hZ : BlkAt w Z #[.bool false, vz, .bool false] 70) (hDZ : D ≠ Z) (hv : NatAt w vz xs) (hl : xs.length ≤ 900) (hvD : ∀ g, natBlk vz = some g → g ≠ D) :
    Calls Tryz.prog 46 #[.pointer (some ⟨D, 3, none⟩), .pointer (some ⟨Z, 0, none⟩)] w fun e w' => e = .returned (.pointer (some ⟨D, 3, none⟩)) ∧ ∃ v', DecAt w' D 0 neg e0 false v' false ∧ NatAt w' v' xs ∧ (∀ g, natBlk v' = some g → w.heap.size ≤ g) ∧ Fr (fun i => i = D) w w' := by
  obtain ⟨⟨h0, h1, h2, h3, h4, h5⟩, f0, f1, f2, f3, f4, f5⟩ := hD.cells
  have z2 : w.cell? ⟨Z, 2, none⟩ = some (.bool false) := by rw [blk_cell hZ]; rfl
  have s5 : DecAt (w.setCell ⟨D, 5, none⟩ (.bool false)) D 0 neg e0 false (.slice none 0 0) false := blk_set hD 5 (.bool false)
  have hF : Fr (fun i => i = D) w (w.setCell ⟨D, 5, none⟩ (.bool false)) := Fr.setCell (S := fun i => i = D) (p := ⟨D, 5, none⟩) (Fr.refl _ _) (fun _ => rfl) _
  have hsz : (w.setCell ⟨D, 5, none⟩ (.bool false)).heap.size = w.heap.size := by simp
  have hFd : Fr NoB (w.setCell ⟨D, 5, none⟩ (.bool false)) (w.setCell ⟨D, 5, none⟩ (.bool false)).drew := (Fr.refl _ _).drew
  have HS := hid (intSet D 3 Z 0 #[.int .i8 0, .bool neg, .int .i32 e0, .bool false, .slice none 0 0, .bool false] #[.bool false, vz, .bool false] 72 70 false false (.slice none 0 0) vz [] xs (w.setCell ⟨D, 5, none⟩ (.bool false)).drew (hFd.blk s5 (fun h => h)) rfl rfl (hFd.blk (hF.blk hZ (fun h => hDZ h.symm)) (fun h => h)) rfl rfl (NatAt.nil _) ((hv.fr hF (fun g hg h => hvD g hg h)).fr hFd (fun _ _ h => h)) hl (fun h => absurd h hDZ) (fun g h => by cases h))
  have HF := hid hF; have HSZ := hid hsz; have HFd := hid hFd
  clear hD hZ hv s5 hF hsz hFd h0 h1 h2 h3 h4 f0 f1 f2 f3 f4
  go_enter Tryz.func46, Tryz.ntmps46
  go_wp2_with fail
  go_region_with (first | (go_at_call 68; refine HS.out.mono ?_; rintro e w1 ⟨rfl, r⟩; have R := hid r; clear r))
  all_goals
    obtain ⟨v', r1, r2, r3, r4⟩ := R.out
    have hnil : natBlk (.slice none 0 0) = none := rfl
    rw [hnil] at r3 r4
    have N := hid (show ∃ v', DecAt w1 D 0 neg e0 false v' false ∧ NatAt w1 v' xs ∧ (∀ g, natBlk v' = some g → w.heap.size ≤ g) ∧ Fr (fun i => i = D) w w1 from
      ⟨v', r1, r2, fun g hg => by
        rcases r3 g hg with h | h
        · exact nomatch h
        · have h : (w.setCell ⟨D, 5, none⟩ (.bool false)).heap.size ≤ g := h
          rw [HSZ.out] at h
          exact h, (HF.out.trans HFd.out (fun _ _ h => h.elim)).trans r4 (fun i _ h => by
        rcases h with h | h
        · exact h
        · exact nomatch h)⟩)
    clear r1 r2 r3 r4 R hnil
    go_wp2_with fail
    go_ret
    exact ⟨rfl, N.out⟩

def MadeRes (w : World) (neg : Bool) (V : Nat) (e0 : Int) (e : Ending) (w' : World) : Prop :=
  ∃ v, e = .returned (.pointer (some ⟨w.heap.size + 1, 0, none⟩)) ∧ DecAt w' (w.heap.size + 1) 0 neg e0 false v false ∧ NatAt w' v (limbs V) ∧ (∀ g, natBlk v = some g → w.heap.size + 1 < g) ∧ Fr NoB w w'

set_option maxRecDepth 100000 in
set_option maxHeartbeats 2000000 in
theorem implMade (neg : Bool) (A : Option Addr) (n c : Nat) (ws : List Nat) (e0 : Int) (w : World) (hX : CW w A n c ws) (hl : ws.length ≤ 100) (hb : ∀ x ∈ ws, x < WB) (he : -200 ≤ e0) (he' : e0 ≤ 200) :
    Calls Tryz.prog 33 #[.agg #[.int .i64 0, .bool neg, .slice A n c, .int .i64 e0]] w (MadeRes w neg (nval ws) e0) := by
  have HS0 : Hid (BlkAt ((w.alloc (.cells #[.int .i64 0, .bool neg, .slice A n c, .int .i64 e0] 30)).alloc (.cells #[.int .i8 0, .bool false, .int .i32 e0, .bool false, .slice none 0 0, .bool false] 72)) w.heap.size #[.int .i64 0, .bool neg, .slice A n c, .int .i64 e0] 30) := hid (blk_alloc (blk_new w _) _)
  have HD0 : Hid (DecAt ((w.alloc (.cells #[.int .i64 0, .bool neg, .slice A n c, .int .i64 e0] 30)).alloc (.cells #[.int .i8 0, .bool false, .int .i32 e0, .bool false, .slice none 0 0, .bool false] 72)) (w.heap.size + 1) 0 false e0 false (.slice none 0 0) false) := hid (by
    have := blk_new (w.alloc (.cells #[.int .i64 0, .bool neg, .slice A n c, .int .i64 e0] 30)) (.cells #[.int .i8 0, .bool false, .int .i32 e0, .bool false, .slice none 0 0, .bool false] 72 (0, 0))
    rw [World.size_alloc] at this
    exact this)
  have HF0 : Hid (Fr NoB w ((w.alloc (.cells #[.int .i64 0, .bool neg, .slice A n c, .int .i64 e0] 30)).alloc (.cells #[.int .i8 0, .bool false, .int .i32 e0, .bool false, .slice none 0 0, .bool false] 72))) := hid (((Fr.refl _ _).alloc _).alloc _)
  have hsz : ((w.alloc (.cells #[.int .i64 0, .bool neg, .slice A n c, .int .i64 e0] 30)).alloc (.cells #[.int .i8 0, .bool false, .int .i32 e0, .bool false, .slice none 0 0, .bool false] 72)).heap.size = w.heap.size + 2 := by simp
  have HSZ := hid hsz
  have HX := hid hX; have HBD := hid hb
  have hc1 : IntKind.i32.wrap e0 = e0 := IntWalk.i32_in _ (by omega)
  clear hX hb hsz
  go_enter Tryz.func33, Tryz.ntmps33
  go_wp2_with fail
  generalize ((w.alloc (.cells #[.int .i64 0, .bool neg, .slice A n c, .int .i64 e0] 30)).alloc (.cells #[.int .i8 0, .bool false, .int .i32 e0, .bool false, .slice none 0 0, .bool false] 72)) = W at *
  have hFd : Fr NoB W W.drew := (Fr.refl _ _).drew
  have c2 : W.cell? ⟨w.heap.size, 2, none⟩ = some (.slice A n c) := by rw [blk_cell HS0.out]; rfl
  have HW := hid (implWhole A n c ws W.drew ((HX.out.fr HF0.out).fr hFd) (by omega) HBD.out)
  have HSd := hid (hFd.blk HS0.out (fun h => h))
  have HDd := hid (HD0.out.fr hFd (fun h => h))
  have HFd := hid (HF0.out.trans hFd (fun _ _ h => h))
  have HL := hid (limbs_len_ws ws HBD.out)
  have hWs : W.drew.heap.size = w.heap.size + 2 := HSZ.out
  have HWS := hid hWs
  have hm : (limbs (nval ws)).length ≤ 900 := by have := HL.out; omega
  have HM := hid hm
  clear hFd hWs hm HL
  go_region_with (first
    | (go_at_call 47; refine HW.out.mono ?_; rintro e w1 ⟨Z, vz, rfl, rZ, r1, r2, r3, r4⟩
       have HB := hid (bigSetDec (w.heap.size + 1) Z false e0 vz (limbs (nval ws)) w1 (HDd.out.fr r4 (fun h => h)) r1 (by have := HWS.out; omega) r2 HM.out (fun g hg => by have := (r3 g hg).1; have := HWS.out; omega))
       have HF1 := hid (HFd.out.trans r4 (fun _ _ h => h))
       have HS1 := hid (r4.blk HSd.out (fun h => h))
       have hsz1 := r4.size
       clear r1 r2 r3 r4)
    | (go_at_call 46; refine HB.out.mono ?_; rintro e w2 ⟨rfl, r⟩; have R := hid r; clear r))
  all_goals
    obtain ⟨v, r1, r2, r3, r4⟩ := R.out
    have hWS := HWS.out
    have HS2 := r4.blk HS1.out (by omega)
    have k1 : w2.cell? ⟨w.heap.size, 1, none⟩ = some (.bool neg) := by rw [blk_cell HS2]; rfl
    have HD2 := r1.set1 neg
    have hFs : Fr (fun i => i = w.heap.size + 1) w2 (w2.setCell ⟨w.heap.size + 1, 1, none⟩ (.bool neg)) := Fr.setCell (S := fun i => i = w.heap.size + 1) (p := ⟨w.heap.size + 1, 1, none⟩) (Fr.refl _ _) (fun _ => rfl) _
    have N := hid (show MadeRes w neg (nval ws) e0 (.returned (.pointer (some ⟨w.heap.size + 1, 0, none⟩))) (w2.setCell ⟨w.heap.size + 1, 1, none⟩ (.bool neg)) from
      ⟨v, rfl, HD2, r2.fr hFs (fun g hg h => by have := r3 g hg; omega), fun g hg => by have := r3 g hg; omega,
        ((HF1.out.trans r4 (fun i hi h => by have h : i = w.heap.size + 1 := h; omega)).trans hFs (fun i hi h => by have h : i = w.heap.size + 1 := h; omega))⟩)
    obtain ⟨⟨_, q1, _⟩, _, q2, _⟩ := r1.cells
    clear r1 r2 r3 r4 HS2 HD2 hFs R
    go_wp2_with fail
    go_ret
    exact N.out
end Go.Proofs.YteokhhepnoelhaaGreatDoor

set_option linter.unusedVariables false
set_option linter.unusedSimpArgs false
namespace Go.Proofs.YteokhhepnoelhaaGreatDoor
open Go.RowKit Go.Proofs.YteokhhepnoelhaaGreatDoorW.PrintWords

def FitsRes (w : World) (e : Ending) (w' : World) : Prop := (∃ ok, e = .returned (.bool ok)) ∧ Fr NoB w w'
set_option maxRecDepth 100000 in
set_option maxHeartbeats 1000000 in
theorem fits15 (F : Int) (neg : Bool) (A : Option Addr) (n c : Nat) (e0 : Int) (w : World) :
    Calls Tryz.prog 15 #[.agg #[.int .i64 F, .bool neg, .slice A n c, .int .i64 e0]] w (FitsRes w) := by
  by_cases h : (2147483647 : Int) < n
  · go_enter Tryz.func15, Tryz.ntmps15
    go_wp2_with fail
    exact bodyPost_ret (v := .bool false) (by simp [results, Tryz.results15, go_sem]) rfl ⟨⟨_, rfl⟩, (Fr.refl _ _).alloc _⟩
  · go_enter Tryz.func15, Tryz.ntmps15
    go_wp2_with fail
    exact bodyPost_ret (v := .bool true) (by simp [results, Tryz.results15, go_sem]) rfl ⟨⟨_, rfl⟩, (Fr.refl _ _).alloc _⟩

def FinRes (w : World) (F : Int) (neg : Bool) (ws : List Nat) (e0 : Int) (e : Ending) (w' : World) : Prop :=
  Fr NoB w w' ∧ ∃ (ng : Bool) (A : Option Addr) (n c : Nat) (x : Int) (ok : Bool), e = .returned (.tuple #[.agg #[.bool ng, .slice A n c, .int .i64 x], .bool ok]) ∧
    (ok = true → F = 0 ∧ ws = limbs (nval ws) ∧ ws.length ≤ 3 ∧ -100 ≤ e0 ∧ e0 ≤ 100 ∧ ng = neg ∧ x = e0 ∧ CN w' A n c (digs (nval ws)))

set_option maxRecDepth 100000 in
set_option maxHeartbeats 1000000 in
theorem finite_far (F : Int) (neg : Bool) (A : Option Addr) (n c : Nat) (ws : List Nat) (e0 : Int) (w : World) (h : (3 : Int) < n ∨ e0 < -100 ∨ 100 < e0) :
    Calls Tryz.prog 16 #[.agg #[.int .i64 F, .bool neg, .slice A n c, .int .i64 e0]] w (FinRes w F neg ws e0) := by
  by_cases h1 : (3 : Int) < n
  · clear h
    go_enter Tryz.func16, Tryz.ntmps16
    go_wp2_with fail
    exact bodyPost_ret (v := .tuple #[.agg #[.bool false, .slice none 0 0, .int .i64 0], .bool false]) (by simp [results, Tryz.results16, go_sem]) rfl ⟨by repeat' (first | (with_reducible exact Fr.refl _ _) | refine Fr.alloc ?_ _ | refine Fr.setCell ?_ ?_ _), _, _, _, _, _, _, rfl, fun h => by cases h⟩
  · by_cases h2 : e0 < -100
    · clear h
      go_enter Tryz.func16, Tryz.ntmps16
      go_wp2_with fail
      exact bodyPost_ret (v := .tuple #[.agg #[.bool false, .slice none 0 0, .int .i64 0], .bool false]) (by simp [results, Tryz.results16, go_sem]) rfl ⟨by repeat' (first | (with_reducible exact Fr.refl _ _) | refine Fr.alloc ?_ _ | refine Fr.setCell ?_ ?_ _), _, _, _, _, _, _, rfl, fun h => by cases h⟩
    · have h3 : 100 < e0 := by omega
      clear h
      go_enter Tryz.func16, Tryz.ntmps16
      go_wp2_with fail
      exact bodyPost_ret (v := .tuple #[.agg #[.bool false, .slice none 0 0, .int .i64 0], .bool false]) (by simp [results, Tryz.results16, go_sem]) rfl ⟨by repeat' (first | (with_reducible exact Fr.refl _ _) | refine Fr.alloc ?_ _ | refine Fr.setCell ?_ ?_ _), _, _, _, _, _, _, rfl, fun h => by cases h⟩

set_option maxRecDepth 100000 in
set_option maxHeartbeats 1000000 in
theorem finite_near (F : Int) (neg : Bool) (A : Option Addr) (n c : Nat) (ws : List Nat) (e0 : Int) (w : World) (hX : CW w A n c ws) (hw : ∀ x ∈ ws, x < WB) (h1 : ¬ (3 : Int) < n) (h2 : ¬ e0 < -100) (h3 : ¬ 100 < e0) :
    Calls Tryz.prog 16 #[.agg #[.int .i64 F, .bool neg, .slice A n c, .int .i64 e0]] w (FinRes w F neg ws e0) := by
  have hF : Fr NoB w ((w.alloc (.cells #[.int .i64 F, .bool neg, .slice A n c, .int .i64 e0] 30)).alloc (.cells #[.bool false, .slice none 0 0, .int .i64 0] 25)) := ((Fr.refl _ _).alloc _).alloc _
  have HB : Hid (BlkAt ((w.alloc (.cells #[.int .i64 F, .bool neg, .slice A n c, .int .i64 e0] 30)).alloc (.cells #[.bool false, .slice none 0 0, .int .i64 0] 25)) (w.heap.size + 1) #[.bool false, .slice none 0 0, .int .i64 0] 25) := hid (by
    have := blk_new (w.alloc (.cells #[.int .i64 F, .bool neg, .slice A n c, .int .i64 e0] 30)) (.cells #[.bool false, .slice none 0 0, .int .i64 0] 25 (0, 0))
    rw [World.size_alloc] at this
    exact this)
  have hn : n = ws.length := hX.1
  have HO := hid (ofDecC F neg ws e0 hw (by omega) A n c _ (hX.fr hF))
  have HF := hid hF; have HN := hid hn
  clear hX hw hF hn
  go_enter Tryz.func16, Tryz.ntmps16
  go_wp2_with fail
  generalize ((w.alloc (.cells #[.int .i64 F, .bool neg, .slice A n c, .int .i64 e0] 30)).alloc (.cells #[.bool false, .slice none 0 0, .int .i64 0] 25)) = W at *
  refine HO.out.mono ?_
  rintro e w1 ⟨A2, n2, c2, rfl, hC, hF⟩
  have hB := hF.blk HB.out (fun h => h)
  have b0 := blk_cell hB 0; have b1 := blk_cell hB 1; have b2 := blk_cell hB 2
  have f0 := blk_frozen hB 0; have f1 := blk_frozen hB 1; have f2 := blk_frozen hB 2
  simp only [List.getElem?_toArray, List.getElem?_cons_zero, List.getElem?_cons_succ] at b0 b1 b2
  have HC := hid hC; have HF1 := hid (HF.out.trans hF (fun _ _ h => h)); have HBB := hid hB
  clear hC hF hB
  go_wp2_with fail
  have hB3 : BlkAt (((w1.setCell ⟨w.heap.size + 1, 0, none⟩ (.bool neg)).setCell ⟨w.heap.size + 1, 1, none⟩ (.slice A2 n2 c2)).setCell ⟨w.heap.size + 1, 2, none⟩ (.int .i64 e0)) (w.heap.size + 1) #[.bool neg, .slice A2 n2 c2, .int .i64 e0] 25 := blk_set (blk_set (blk_set HBB.out 0 (.bool neg)) 1 (.slice A2 n2 c2)) 2 (.int .i64 e0)
  have r0 := blk_cell hB3 0; have r1 := blk_cell hB3 1; have r2 := blk_cell hB3 2
  simp only [List.getElem?_toArray, List.getElem?_cons_zero, List.getElem?_cons_succ] at r0 r1 r2
  have HFs : Fr (fun i => i = w.heap.size + 1) w1 (((w1.setCell ⟨w.heap.size + 1, 0, none⟩ (.bool neg)).setCell ⟨w.heap.size + 1, 1, none⟩ (.slice A2 n2 c2)).setCell ⟨w.heap.size + 1, 2, none⟩ (.int .i64 e0)) := by
    refine Fr.setCell (Fr.setCell (Fr.setCell (Fr.refl _ _) ?_ _) ?_ _) ?_ _ <;> exact fun _ => rfl
  have HC2 : CN (((w1.setCell ⟨w.heap.size + 1, 0, none⟩ (.bool neg)).setCell ⟨w.heap.size + 1, 1, none⟩ (.slice A2 n2 c2)).setCell ⟨w.heap.size + 1, 2, none⟩ (.int .i64 e0)) A2 n2 c2 (digs (nval ws)) := by
    have hlt : w.heap.size + 1 < W.heap.size := blk_lt HB.out
    exact (((HC.out.far (p := ⟨w.heap.size + 1, 0, none⟩) hlt _).far (p := ⟨w.heap.size + 1, 1, none⟩) hlt _).far (p := ⟨w.heap.size + 1, 2, none⟩) hlt _).cn
  refine bodyPost_ret (v := .tuple #[.agg #[.bool neg, .slice A2 n2 c2, .int .i64 e0], .bool (decide (F = 0) && decide (ws = limbs (nval ws)))]) (by simp [results, Tryz.results16, go_sem, r0, r1, r2]) rfl ⟨HF1.out.trans HFs (fun i hi h => by have h : i = w.heap.size + 1 := h; omega), neg, A2, n2, c2, e0, _, rfl, fun h => ?_⟩
  rw [Bool.and_eq_true, decide_eq_true_iff, decide_eq_true_iff] at h
  exact ⟨h.1, h.2, by have := HN.out; omega, h2, h3, rfl, rfl, HC2⟩

theorem finite_all (F : Int) (neg : Bool) (A : Option Addr) (n c : Nat) (ws : List Nat) (e0 : Int) (w : World) (hX : CW w A n c ws) (hw : ∀ x ∈ ws, x < WB) :
    Calls Tryz.prog 16 #[.agg #[.int .i64 F, .bool neg, .slice A n c, .int .i64 e0]] w (FinRes w F neg ws e0) := by
  by_cases h : (3 : Int) < n ∨ e0 < -100 ∨ 100 < e0
  · exact finite_far F neg A n c ws e0 w h
  · exact finite_near F neg A n c ws e0 w hX hw (by omega) (by omega) (by omega)
end Go.Proofs.YteokhhepnoelhaaGreatDoor

set_option linter.unusedVariables false
set_option linter.unusedSimpArgs false
namespace Go.Proofs.YteokhhepnoelhaaGreatDoor
open Go.RowKit

def bcells (l : List UInt8) : List Value := l.map fun b => .int .u8 (b.toNat : Int)
theorem bcells_length (l : List UInt8) : (bcells l).length = l.length := by simp [bcells]
theorem bcells_get (l : List UInt8) (j : Nat) : (bcells l)[j]? = l[j]?.map fun b => .int .u8 (b.toNat : Int) := by simp [bcells]

def BufAt (w : World) (g : Nat) (v : Value) (l : List UInt8) : Prop :=
  ∃ cap cs t, v = .slice (some ⟨g, 0, none⟩) l.length cap ∧ w.heap[g]? = some (.cells cs t (0, 0)) ∧ cap ≤ cs.size ∧ l.length ≤ cap ∧ cap ≤ maxLen ∧ ∀ (j : Nat) (b : UInt8), l[j]? = some b → cs[j]? = some (.int .u8 (b.toNat : Int))
theorem BufAt.fr {w w' : World} {S : Nat → Prop} {g : Nat} {v : Value} {l : List UInt8} (h : BufAt w g v l) (hF : Fr S w w') (hS : ¬ S g) : BufAt w' g v l := by
  obtain ⟨cap, cs, t, h1, h3, h4⟩ := h
  exact ⟨cap, cs, t, h1, hF.blk h3 hS, h4⟩
theorem BufAt.lt {w : World} {g : Nat} {v : Value} {l : List UInt8} (h : BufAt w g v l) : g < w.heap.size := by
  obtain ⟨cap, cs, t, h1, h3, _⟩ := h
  exact blk_lt h3
theorem BufAt.shape {w : World} {g : Nat} {v : Value} {l : List UInt8} (h : BufAt w g v l) : ∃ cap, v = .slice (some ⟨g, 0, none⟩) l.length cap ∧ l.length ≤ cap := by
  obtain ⟨cap, cs, t, h1, h3, h4, h5, _⟩ := h
  exact ⟨cap, h1, h5⟩
theorem BufAt.cell {w : World} {g : Nat} {v : Value} {l : List UInt8} (h : BufAt w g v l) (j : Nat) (b : UInt8) (hj : l[j]? = some b) : w.cell? ⟨g, j, none⟩ = some (.int .u8 (b.toNat : Int)) := by
  obtain ⟨cap, cs, t, h1, h3, h4, h5, h6, h7⟩ := h
  rw [blk_cell h3]
  exact h7 j b hj
/-- A part of a buffer, as what an append takes. -/
theorem BufAt.src {w : World} {g : Nat} {v : Value} {l : List UInt8} (h : BufAt w g v l) (o n c : Nat) (part : List UInt8) (hp : part = (l.drop o).take n) (hn : part.length = n) : Src Tryz.prog 1 100 (.slice (some ⟨g, o, none⟩) n c) part.length (bcells part) w := by
  rw [hn]
  refine Src.ofSlice (P := Tryz.prog) w Tryz.underlying100 ⟨g, o, none⟩ n c (bcells part) (by rw [bcells_length]; omega) (fun j u hj => ?_) (fun u hu => ?_)
  · rw [bcells_get] at hj
    obtain ⟨b, hb, rfl⟩ := Option.map_eq_some_iff.1 hj
    rw [Addr.add_lit]
    refine h.cell (o + j) b ?_
    have hjn : j < n := by have := (List.getElem?_eq_some_iff.1 hb).1; omega
    rw [hp, List.getElem?_take_of_lt hjn, List.getElem?_drop] at hb
    exact hb
  · unfold bcells at hu
    obtain ⟨b, _, rfl⟩ := List.mem_map.1 hu
    rfl

/-- What an append onto a buffer yields. -/
theorem run_append_buf (W : World) (g : Nat) (tx ty : TypeId) (v : Value) (l news : List UInt8) (h : BufAt W g v l) (xv : Value) (hs : Src Tryz.prog 1 tx xv news.length (bcells news) W) (hl : l.length + news.length ≤ 100000) :
    ∃ v' w' g', (Builtin.append_ #[100, tx] ty #[v, xv]).run Tryz.prog W = .ok v' w' ∧ BufAt w' g' v' (l ++ news) ∧ (g' = g ∨ W.heap.size ≤ g') ∧ Fr (fun i => i = g) W w' := by
  obtain ⟨i, hi, hzz⟩ := Option.map_eq_some_iff.1 Tryz.info5
  simp only [Prod.mk.injEq] at hzz
  obtain ⟨hz, hsize, hby⟩ := hzz
  obtain ⟨cap, cs, t, rfl, hg, hcs, hlc, hcm, hcells⟩ := h
  have hnl := bcells_length news
  rw [← hsize] at hs
  by_cases hfit : l.length + news.length ≤ cap
  · have hrun := run_append_room_src (P := Tryz.prog) W 100 tx ty 5 i Tryz.underlying100 hi g 0 l.length cap xv news.length (bcells news) hs hfit
      (fun j hj => by
        rw [hnl] at hj
        rw [hsize, blk_cell hg, Array.getElem?_eq_getElem (by omega)]
        rfl) (fun j hj => blk_frozen hg _)
    rw [hsize] at hrun
    refine ⟨_, _, g, hrun, ⟨cap, putV cs (0 + l.length * 1) (bcells news), t, by rw [List.length_append], setCells_blk g t (bcells news) _ cs W hg, by rw [putV_size]; exact hcs, by rw [List.length_append]; exact hfit, hcm, fun j b hj => ?_⟩, .inl rfl, Fr.setCells g (bcells news) _ W (Fr.refl _ _) (fun _ => rfl)⟩
    by_cases hjl : j < l.length
    · rw [List.getElem?_append_left hjl] at hj
      rw [putV_get_out _ _ _ _ (.inl (by omega))]
      exact hcells j b hj
    · rw [List.getElem?_append_right (by omega)] at hj
      have hjn : j - l.length < news.length := (List.getElem?_eq_some_iff.1 hj).1
      have h1 := putV_get_in (bcells news) cs (0 + l.length * 1) (j - l.length) (by rw [hnl]; omega) (by rw [hnl]; exact hjn)
      rw [show 0 + l.length * 1 + (j - l.length) = j by omega] at h1
      rw [h1, bcells_get, hj]
      rfl
  · have hold : (Builtin.firstCells i.size l.length (.slice (some ⟨g, 0, none⟩) l.length cap)).run Tryz.prog W.drew = .ok (bcells l).toArray W.drew :=
      run_firstCells_some W.drew i.size l.length ⟨g, 0, none⟩ l.length cap (bcells l) (by rw [bcells_length, hsize]; omega) (fun j u hj => by
        rw [bcells_get] at hj
        obtain ⟨b, hb, rfl⟩ := Option.map_eq_some_iff.1 hj
        rw [Addr.add_lit, Nat.zero_add]
        show W.cell? ⟨g, j, none⟩ = _
        rw [blk_cell hg]
        exact hcells j b hb)
    have h63 : l.length + news.length ≤ maxLen := by unfold maxLen; omega
    have hrun := run_append_grow_src (P := Tryz.prog) W 100 tx ty 5 i (.int .u8 0) Tryz.underlying100 hi hz (some ⟨g, 0, none⟩) l.length cap (bcells l) hold xv news.length (bcells news) hs (by omega) (by omega) (growslice_fits (by omega) (by rw [hby]; omega))
    have hge := grownCap_ge W (l.length + news.length) cap 5
    have hcm' := grownCap_le_maxLen W (l.length + news.length) cap 5 h63
    refine ⟨_, _, W.heap.size, hrun, ⟨_, _, 5, by rw [List.length_append], by
        have := blk_new W.drew (.cells ((bcells l ++ bcells news).toArray ++ Builtin.zeroCells (Value.cells (.int .u8 0)) (grownCap W (l.length + news.length) cap 5 - (l.length + news.length))) 5 (0, 0))
        exact this, ?_, by rw [List.length_append]; exact hge, hcm', fun j b hj => ?_⟩, .inr (Nat.le_refl _), (((Fr.refl _ W).drew).alloc _)⟩
    · rw [Array.size_append, List.size_toArray, List.length_append, bcells_length, bcells_length, size_zeroCells]
      simp only [Value.cells]
      simp
      omega
    · have hj2 : j < (l ++ news).length := (List.getElem?_eq_some_iff.1 hj).1
      rw [Array.getElem?_append_left (by simp only [List.size_toArray, List.length_append, bcells_length] at *; omega), List.getElem?_toArray]
      rw [show bcells l ++ bcells news = bcells (l ++ news) by simp [bcells], bcells_get, hj]
      rfl

/-- A buffer that began in the block g of w. -/
def BufSt (w : World) (g : Nat) (wk : World) (v : Value) (l : List UInt8) : Prop := ∃ gk, BufAt wk gk v l ∧ (gk = g ∨ w.heap.size ≤ gk) ∧ Fr (fun i => i = g) w wk
theorem BufSt.start {w : World} {g : Nat} {v : Value} {l : List UInt8} (h : BufAt w g v l) : BufSt w g w v l := ⟨g, h, .inl rfl, Fr.refl _ _⟩
theorem BufSt.frame {w wk : World} {g : Nat} {v : Value} {l : List UInt8} (h : BufSt w g wk v l) : Fr (fun i => i = g) w wk := by
  obtain ⟨gk, h1, h2, h3⟩ := h
  exact h3
theorem BufSt.fr {w wk w' : World} {g : Nat} {v : Value} {l : List UInt8} (h : BufSt w g wk v l) (hF : Fr NoB wk w') : BufSt w g w' v l := by
  obtain ⟨gk, h1, h2, h3⟩ := h
  exact ⟨gk, h1.fr hF (fun h => h), h2, h3.trans hF (fun _ _ h => h.elim)⟩
theorem BufSt.trans {w wk wl : World} {g gk : Nat} {v v' : Value} {l l' : List UInt8} (h : BufSt w g wk v l) (hg : BufAt wk gk v l) (hgk : gk = g ∨ w.heap.size ≤ gk) (k : BufSt wk gk wl v' l') : BufSt w g wl v' l' := by
  obtain ⟨gl, h1, h2, h3⟩ := k
  have hs := h.frame.size
  refine ⟨gl, h1, ?_, h.frame.trans h3 (fun i hi e => by have e : i = gk := e; omega)⟩
  rcases h2 with rfl | h2
  · exact hgk
  · exact .inr (by omega)
theorem BufSt.shape {w wk : World} {g : Nat} {v : Value} {l : List UInt8} (h : BufSt w g wk v l) : ∃ A cap, v = .slice A l.length cap := by
  obtain ⟨gk, h1, h2, h3⟩ := h
  obtain ⟨cap, h4, _⟩ := h1.shape
  exact ⟨_, cap, h4⟩

theorem wpList_append_buf {w W : World} {ops : Array Oper} {rest : List Oper} {o : Oper} {a : Act} {Q : Exit → Act → World → Prop} (g : Nat) (s x : Operand) (tx : TypeId)
    (hgd : o.guard = none) (ho : o.op = .call { callee := .builtin .append, args := #[s, x], argTypes := #[100, tx] })
    (v : Value) (l news : List UInt8) (hv : a.eval s = v) (h : BufSt w g W v l) (xv : Value) (hx : a.eval x = xv) (hs : Src Tryz.prog 1 tx xv news.length (bcells news) W) (hl : l.length + news.length ≤ 100000)
    (hK : ∀ v' w', BufSt w g w' v' (l ++ news) → wpList Tryz.prog ops Q rest (a.put o.dst v') w') : wpList Tryz.prog ops Q (o :: rest) a W := by
  refine wpList_plain hgd fun K hK' => ?_
  obtain ⟨gk, h1, h2, h3⟩ := h
  obtain ⟨v', w', g', hrun, r1, r2, r3⟩ := run_append_buf W gk tx o.type v l news h1 xv hs hl
  unfold Oper.wp
  simp [execOp, ho, resolve, invoke, builtin, hv, hx, hrun, Result.andThen]
  exact hK' _ _ (hK v' w' (BufSt.trans ⟨gk, h1, h2, h3⟩ h1 h2 ⟨g', r1, r2, r3⟩))

/-- The same as one step of a region that draws its order. -/
theorem step_append_buf {w W : World} {ops : Array Oper} {o : Oper} {a : Act} {K : Act → World → Prop} {Q : Exit → Act → World → Prop} {E : Prop} (g : Nat) (s x : Operand) (tx : TypeId)
    (hgd : o.guard = none) (ho : o.op = .call { callee := .builtin .append, args := #[s, x], argTypes := #[100, tx] })
    (v : Value) (l news : List UInt8) (hv : a.eval s = v) (h : BufSt w g W v l) (xv : Value) (hx : a.eval x = xv) (hs : Src Tryz.prog 1 tx xv news.length (bcells news) W) (hl : l.length + news.length ≤ 100000)
    (hK : ∀ v' w', BufSt w g w' v' (l ++ news) → K (a.put o.dst v') w') : if Region.wanted o (yielded ops a.tmps) = true then Oper.wp Tryz.prog o a W K Q else E := by
  have hw : Region.wanted o (yielded ops a.tmps) = true := by simp [Region.wanted, hgd]
  rw [if_pos hw]
  obtain ⟨gk, h1, h2, h3⟩ := h
  obtain ⟨v', w', g', hrun, r1, r2, r3⟩ := run_append_buf W gk tx o.type v l news h1 xv hs hl
  unfold Oper.wp
  simp [execOp, ho, resolve, invoke, builtin, hv, hx, hrun, Result.andThen]
  exact hK v' w' (BufSt.trans ⟨gk, h1, h2, h3⟩ h1 h2 ⟨g', r1, r2, r3⟩)
end Go.Proofs.YteokhhepnoelhaaGreatDoor

set_option linter.unusedVariables false
set_option linter.unusedSimpArgs false
namespace Go.Proofs.YteokhhepnoelhaaGreatDoor
open Go.RowKit

theorem lit_src {W : World} {k : Nat} {b : UInt8} (h : W.cell? ⟨k, 0, none⟩ = some (.int .u8 (b.toNat : Int))) : Src Tryz.prog 1 100 (.slice (some ⟨k, 0, none⟩) 1 1) [b].length (bcells [b]) W :=
  Src.ofSlice (P := Tryz.prog) W Tryz.underlying100 ⟨k, 0, none⟩ 1 1 (bcells [b]) rfl (fun j u hj => by
    match j, hj with
    | 0, hj => rw [← Option.some.inj hj]; exact h) (fun u hu => by
    rw [List.mem_singleton.1 hu]; rfl)

theorem lit_new (W : World) (k : Int) (b : UInt8) (hk : (b.toNat : Int) = k) : Src Tryz.prog 1 100 (.slice (some ⟨W.heap.size, 0, none⟩) 1 1) [b].length (bcells [b]) (W.alloc (.cells #[.int .u8 k] 5)) := by
  subst hk
  exact lit_src (by rw [blk_cell (blk_new W (.cells #[.int .u8 (b.toNat : Int)] 5 (0, 0)))]; rfl)
def BufRes (w : World) (g : Nat) (l : List UInt8) (e : Ending) (w' : World) : Prop := ∃ v', e = .returned v' ∧ BufSt w g w' v' l
/-- strconv.AppendInt onto a buffer of ours. -/
def AppOk (w : World) (g : Nat) : Prop := ∀ (W : World) (v : Value) (l : List UInt8) (n : Nat), BufSt w g W v l → l.length ≤ 1000 → n ≤ 1000 → Calls Tryz.prog 113 #[v, .int .i64 (n : Int), .int .i64 10] W (BufRes w g (l ++ Lib.decDigits n))
def sgnB (adj : Int) : UInt8 := if adj < 0 then 45 else 43
def eText (ds : List UInt8) (c : UInt8) (adj : Int) : List UInt8 := ds.take 1 ++ (if 1 < ds.length then 46 :: ds.drop 1 else []) ++ [c] ++ [sgnB adj] ++ Lib.decDigits adj.natAbs

set_option maxRecDepth 100000 in
set_option maxHeartbeats 2000000 in
theorem fmtE_any (D gd g : Nat) (neg : Bool) (e0 : Int) (v vb vd : Value) (l ds : List UInt8) (d0 c : UInt8) (w : World) (hD : DecAt w D 0 neg e0 false v false) (hb : BufAt w g vb l) (hd : BufAt w gd vd ds) (hgd : gd ≠ g) (hDg : D ≠ g) (h0 : ds[0]? = some d0)
    (hl : l.length ≤ 10) (hn : ds.length ≤ 200) (he : -300 ≤ e0) (he' : e0 ≤ 300) (hA : AppOk w g) :
    Calls Tryz.prog 72 #[vb, .int .u8 (c.toNat : Int), .pointer (some ⟨D, 0, none⟩), vd] w (BufRes w g (l ++ eText ds c (e0 + ds.length - 1))) := by
  have hn1 : 1 ≤ ds.length := by have := (List.getElem?_eq_some_iff.1 h0).1; omega
  obtain ⟨⟨h0c, h1c, h2c, h3c, h4c, h5c⟩, f0, f1, f2, f3, f4, f5⟩ := hD.cells
  have hdc := hd.cell 0 d0 h0
  have HB := hid (BufSt.start hb)
  obtain ⟨capb, rfl, _⟩ := hb.shape
  obtain ⟨capd, rfl, hcd⟩ := hd.shape
  have HD := hid hd; have HA := hid hA; have HGD := hid hgd; have HL := hid hl; have HN := hid hn
  have HT1 : Hid (ds.take 1 = [d0]) := hid (by rw [List.take_one, List.head?_eq_getElem?, h0]; rfl)
  obtain ⟨n, hnn⟩ : ∃ n, ds.length = n := ⟨_, rfl⟩
  have HNN := hid hnn
  rw [hnn] at hn1 hn hcd ⊢
  clear hD hb hd hA hgd h0 h0c h1c h3c h4c h5c f0 f1 f2 f3 f4 f5 hl hDg hnn
  obtain ⟨adj, hadj⟩ : ∃ adj, e0 + (n : Int) - 1 = adj := ⟨_, rfl⟩
  rw [hadj]
  have HADJ := hid hadj
  have hadj1 : -300 ≤ adj := by omega
  have hadj2 : adj ≤ 500 := by omega
  clear hadj
  have hsg : (decide (adj < 0)) = true ∧ sgnB adj = 45 ∨ (decide (adj < 0)) = false ∧ sgnB adj = 43 := by
    unfold sgnB
    by_cases h : adj < 0 <;> simp [h]
  have hw1 : IntKind.i64.wrap (e0 + (n : Int) - 1) = adj := by rw [HADJ.out]; exact IntWalk.i64_in _ (by omega)
  go_enter Tryz.func72, Tryz.ntmps72
  by_cases hone : n = 1
  · have hn2 : ¬ (1 : Int) < n := by omega
    clear hone
    rcases hsg with ⟨hs, hsv⟩ | ⟨hs, hsv⟩
    · have hneg : adj < 0 := of_decide_eq_true hs
      have HTE : Hid (eText ds c adj = [d0]  ++ [c] ++ [45] ++ Lib.decDigits (-adj).toNat) := hid (by
        unfold eText
        rw [HT1.out, hsv, if_neg (by rw [HNN.out]; omega), show adj.natAbs = (-adj).toNat by omega]
        simp)
      clear hsv
      go_wp2_with (first
        | (at_builtin; refine wpList_append_buf g (.tmp 20) (.tmp 24) 100 rfl rfl _ _ [d0] rfl (HB.out.fr ((Fr.refl NoB _).alloc _)) _ rfl (lit_new _ _ _ rfl) (by have := HL.out; have := HN.out; have := HNN.out; simp; omega) ?_; intro v1 W1 h1; have H1 := hid h1; clear h1)
        | (at_builtin; refine wpList_append_buf g (.tmp 36) (.tmp 38) 100 rfl rfl _ _ [c] rfl (H1.out.fr ((Fr.refl NoB _).alloc _)) _ rfl (lit_new _ _ _ rfl) (by have := HL.out; have := HN.out; have := HNN.out; simp; omega) ?_; intro v4 W4 h4; have H4 := hid h4; clear h4)
        | (at_builtin; refine wpList_append_buf g (.tmp 44) (.tmp 46) 100 rfl rfl _ _ [45] rfl (H4.out.fr ((Fr.refl NoB _).alloc _)) _ rfl (lit_new _ _ _ rfl) (by have := HL.out; have := HN.out; have := HNN.out; simp; omega) ?_; intro v5 W5 h5; have H5 := hid h5; clear h5))
      have HCALL := HA.out W5 v5 _ (-adj).toNat H5.out (by have := HL.out; have := HN.out; have := HNN.out; simp; omega) (by omega)
      rw [show (((-adj).toNat : Nat) : Int) = -adj by omega] at HCALL
      refine HCALL.mono ?_
      clear HCALL
      rintro e W6 ⟨v6, rfl, h6⟩
      have H6 := hid h6
      clear h6
      go_wp2_with fail
      go_ret
      refine ⟨v6, rfl, ?_⟩
      rw [HTE.out]
      have := H6.out
      simpa using this
    · have hneg : ¬ adj < 0 := of_decide_eq_false hs
      have HTE : Hid (eText ds c adj = [d0]  ++ [c] ++ [43] ++ Lib.decDigits (adj).toNat) := hid (by
        unfold eText
        rw [HT1.out, hsv, if_neg (by rw [HNN.out]; omega), show adj.natAbs = (adj).toNat by omega]
        simp)
      clear hsv
      go_wp2_with (first
        | (at_builtin; refine wpList_append_buf g (.tmp 20) (.tmp 24) 100 rfl rfl _ _ [d0] rfl (HB.out.fr ((Fr.refl NoB _).alloc _)) _ rfl (lit_new _ _ _ rfl) (by have := HL.out; have := HN.out; have := HNN.out; simp; omega) ?_; intro v1 W1 h1; have H1 := hid h1; clear h1)
        | (at_builtin; refine wpList_append_buf g (.tmp 36) (.tmp 38) 100 rfl rfl _ _ [c] rfl (H1.out.fr ((Fr.refl NoB _).alloc _)) _ rfl (lit_new _ _ _ rfl) (by have := HL.out; have := HN.out; have := HNN.out; simp; omega) ?_; intro v4 W4 h4; have H4 := hid h4; clear h4)
        | (at_builtin; refine wpList_append_buf g (.tmp 44) (.tmp 46) 100 rfl rfl _ _ [43] rfl (H4.out.fr ((Fr.refl NoB _).alloc _)) _ rfl (lit_new _ _ _ rfl) (by have := HL.out; have := HN.out; have := HNN.out; simp; omega) ?_; intro v5 W5 h5; have H5 := hid h5; clear h5))
      have HCALL := HA.out W5 v5 _ (adj).toNat H5.out (by have := HL.out; have := HN.out; have := HNN.out; simp; omega) (by omega)
      rw [show (((adj).toNat : Nat) : Int) = adj by omega] at HCALL
      refine HCALL.mono ?_
      clear HCALL
      rintro e W6 ⟨v6, rfl, h6⟩
      have H6 := hid h6
      clear h6
      go_wp2_with fail
      go_ret
      refine ⟨v6, rfl, ?_⟩
      rw [HTE.out]
      have := H6.out
      simpa using this
  · have hn2 : (1 : Int) < n := by omega
    clear hone
    rcases hsg with ⟨hs, hsv⟩ | ⟨hs, hsv⟩
    · have hneg : adj < 0 := of_decide_eq_true hs
      have HTE : Hid (eText ds c adj = [d0] ++ (46 :: ds.drop 1) ++ [c] ++ [45] ++ Lib.decDigits (-adj).toNat) := hid (by
        unfold eText
        rw [HT1.out, hsv, if_pos (by rw [HNN.out]; omega), show adj.natAbs = (-adj).toNat by omega])
      clear hsv
      go_wp2_with (first
        | (at_builtin; refine wpList_append_buf g (.tmp 20) (.tmp 24) 100 rfl rfl _ _ [d0] rfl (HB.out.fr ((Fr.refl NoB _).alloc _)) _ rfl (lit_new _ _ _ rfl) (by have := HL.out; have := HN.out; have := HNN.out; simp; omega) ?_; intro v1 W1 h1; have H1 := hid h1; clear h1)
        | (at_builtin; refine wpList_append_buf g (.tmp 29) (.tmp 30) 100 rfl rfl _ _ [46] rfl (H1.out.fr ((Fr.refl NoB _).alloc _)) _ rfl (lit_new _ _ _ rfl) (by have := HL.out; have := HN.out; have := HNN.out; simp; omega) ?_; intro v2 W2 h2; have H2 := hid h2; clear h2)
        | (at_builtin; refine wpList_append_buf g (.tmp 32) (.tmp 34) 100 rfl rfl _ _ (ds.drop 1) rfl H2.out _ rfl ((HD.out.fr H2.out.frame HGD.out).src 1 (n - 1) _ _ (by rw [List.take_of_length_le (by rw [List.length_drop]; have := HNN.out; omega)]) (by rw [List.length_drop, HNN.out])) (by have := HL.out; have := HN.out; have := HNN.out; simp; omega) ?_; intro v3 W3 h3; have H3 := hid h3; clear h3)
        | (at_builtin; refine wpList_append_buf g (.tmp 36) (.tmp 38) 100 rfl rfl _ _ [c] rfl (H3.out.fr ((Fr.refl NoB _).alloc _)) _ rfl (lit_new _ _ _ rfl) (by have := HL.out; have := HN.out; have := HNN.out; simp; omega) ?_; intro v4 W4 h4; have H4 := hid h4; clear h4)
        | (at_builtin; refine wpList_append_buf g (.tmp 44) (.tmp 46) 100 rfl rfl _ _ [45] rfl (H4.out.fr ((Fr.refl NoB _).alloc _)) _ rfl (lit_new _ _ _ rfl) (by have := HL.out; have := HN.out; have := HNN.out; simp; omega) ?_; intro v5 W5 h5; have H5 := hid h5; clear h5))
      have HCALL := HA.out W5 v5 _ (-adj).toNat H5.out (by have := HL.out; have := HN.out; have := HNN.out; simp; omega) (by omega)
      rw [show (((-adj).toNat : Nat) : Int) = -adj by omega] at HCALL
      refine HCALL.mono ?_
      clear HCALL
      rintro e W6 ⟨v6, rfl, h6⟩
      have H6 := hid h6
      clear h6
      go_wp2_with fail
      go_ret
      refine ⟨v6, rfl, ?_⟩
      rw [HTE.out]
      have := H6.out
      simpa using this
    · have hneg : ¬ adj < 0 := of_decide_eq_false hs
      have HTE : Hid (eText ds c adj = [d0] ++ (46 :: ds.drop 1) ++ [c] ++ [43] ++ Lib.decDigits (adj).toNat) := hid (by
        unfold eText
        rw [HT1.out, hsv, if_pos (by rw [HNN.out]; omega), show adj.natAbs = (adj).toNat by omega])
      clear hsv
      go_wp2_with (first
        | (at_builtin; refine wpList_append_buf g (.tmp 20) (.tmp 24) 100 rfl rfl _ _ [d0] rfl (HB.out.fr ((Fr.refl NoB _).alloc _)) _ rfl (lit_new _ _ _ rfl) (by have := HL.out; have := HN.out; have := HNN.out; simp; omega) ?_; intro v1 W1 h1; have H1 := hid h1; clear h1)
        | (at_builtin; refine wpList_append_buf g (.tmp 29) (.tmp 30) 100 rfl rfl _ _ [46] rfl (H1.out.fr ((Fr.refl NoB _).alloc _)) _ rfl (lit_new _ _ _ rfl) (by have := HL.out; have := HN.out; have := HNN.out; simp; omega) ?_; intro v2 W2 h2; have H2 := hid h2; clear h2)
        | (at_builtin; refine wpList_append_buf g (.tmp 32) (.tmp 34) 100 rfl rfl _ _ (ds.drop 1) rfl H2.out _ rfl ((HD.out.fr H2.out.frame HGD.out).src 1 (n - 1) _ _ (by rw [List.take_of_length_le (by rw [List.length_drop]; have := HNN.out; omega)]) (by rw [List.length_drop, HNN.out])) (by have := HL.out; have := HN.out; have := HNN.out; simp; omega) ?_; intro v3 W3 h3; have H3 := hid h3; clear h3)
        | (at_builtin; refine wpList_append_buf g (.tmp 36) (.tmp 38) 100 rfl rfl _ _ [c] rfl (H3.out.fr ((Fr.refl NoB _).alloc _)) _ rfl (lit_new _ _ _ rfl) (by have := HL.out; have := HN.out; have := HNN.out; simp; omega) ?_; intro v4 W4 h4; have H4 := hid h4; clear h4)
        | (at_builtin; refine wpList_append_buf g (.tmp 44) (.tmp 46) 100 rfl rfl _ _ [43] rfl (H4.out.fr ((Fr.refl NoB _).alloc _)) _ rfl (lit_new _ _ _ rfl) (by have := HL.out; have := HN.out; have := HNN.out; simp; omega) ?_; intro v5 W5 h5; have H5 := hid h5; clear h5))
      have HCALL := HA.out W5 v5 _ (adj).toNat H5.out (by have := HL.out; have := HN.out; have := HNN.out; simp; omega) (by omega)
      rw [show (((adj).toNat : Nat) : Int) = adj by omega] at HCALL
      refine HCALL.mono ?_
      clear HCALL
      rintro e W6 ⟨v6, rfl, h6⟩
      have H6 := hid h6
      clear h6
      go_wp2_with fail
      go_ret
      refine ⟨v6, rfl, ?_⟩
      rw [HTE.out]
      have := H6.out
      simpa using this
end Go.Proofs.YteokhhepnoelhaaGreatDoor

set_option linter.unusedVariables false
set_option linter.unusedSimpArgs false
namespace Go.Proofs.YteokhhepnoelhaaGreatDoor
open Go.RowKit

theorem str_src (W : World) (news : List UInt8) : Src Tryz.prog 1 9 (.string ⟨news.toArray⟩) news.length (bcells news) W := by
  have h := Src.ofString (P := Tryz.prog) W Tryz.underlying9 ⟨news.toArray⟩
  rw [str_size] at h
  have e : byteCells ⟨news.toArray⟩ = bcells news := by simp [byteCells, bcells]
  rw [e] at h
  exact h

set_option maxRecDepth 100000 in
set_option maxHeartbeats 2000000 in
theorem fmtF_zero (D gd g : Nat) (neg : Bool) (v vb vd : Value) (l ds : List UInt8) (w : World) (hD : DecAt w D 0 neg 0 false v false) (hb : BufAt w g vb l) (hd : BufAt w gd vd ds) (hgd : gd ≠ g) (hDg : D ≠ g) (hl : l.length ≤ 10) (hn : ds.length ≤ 200) :
    Calls Tryz.prog 73 #[vb, .pointer (some ⟨D, 0, none⟩), vd] w (BufRes w g (l ++ ds)) := by
  obtain ⟨⟨h0c, h1c, h2c, h3c, h4c, h5c⟩, f0, f1, f2, f3, f4, f5⟩ := hD.cells
  have HB := hid (BufSt.start hb)
  obtain ⟨capb, rfl, _⟩ := hb.shape
  obtain ⟨capd, rfl, hcd⟩ := hd.shape
  have HD := hid hd; have HGD := hid hgd; have HL := hid hl; have HN := hid hn; have HDG := hid hDg; have H2C := hid h2c
  clear hD hb hd hgd h0c h1c h3c h4c h5c f0 f1 f2 f3 f4 f5 hl hn hDg
  have HSRC : Hid (Src Tryz.prog 1 100 (.slice (some ⟨gd, 0, none⟩) ds.length capd) ds.length (bcells ds) w) := hid (HD.out.src 0 ds.length capd ds (by rw [List.drop_zero, List.take_length]) rfl)
  go_enter Tryz.func73, Tryz.ntmps73
  go_wp2_with (at_builtin; refine wpList_append_buf g (.tmp 62) (.tmp 63) 100 rfl rfl _ _ ds rfl HB.out _ rfl HSRC.out (by have := HL.out; have := HN.out; omega) ?_; intro v1 W1 h1; have H1 := hid h1; have k2 := h1.frame.cell' H2C.out HDG.out; clear h1)
  refine wp_loop_rounds 1 ?_
  rw [rounds_succ]
  go_wp2_with fail
  go_ret
  exact ⟨v1, rfl, H1.out⟩

set_option maxRecDepth 100000 in
set_option maxHeartbeats 2000000 in
theorem fmtF_mid (D gd g : Nat) (neg : Bool) (e0 : Int) (off : Nat) (v vb vd : Value) (l ds : List UInt8) (w : World) (hD : DecAt w D 0 neg e0 false v false) (hb : BufAt w g vb l) (hd : BufAt w gd vd ds) (hgd : gd ≠ g) (hDg : D ≠ g) (hl : l.length ≤ 10) (hn : ds.length ≤ 200)
    (he : e0 < 0) (he' : -300 ≤ e0) (hoff : (off : Int) = ds.length + e0) (ho1 : 1 ≤ off) :
    Calls Tryz.prog 73 #[vb, .pointer (some ⟨D, 0, none⟩), vd] w (BufRes w g (l ++ ds.take off ++ [46] ++ ds.drop off)) := by
  obtain ⟨⟨h0c, h1c, h2c, h3c, h4c, h5c⟩, f0, f1, f2, f3, f4, f5⟩ := hD.cells
  have HB := hid (BufSt.start hb)
  obtain ⟨capb, rfl, _⟩ := hb.shape
  obtain ⟨capd, rfl, hcd⟩ := hd.shape
  have HD := hid hd; have HGD := hid hgd; have HL := hid hl; have HN := hid hn; have HDG := hid hDg; have H2C := hid h2c
  obtain ⟨n, hnn⟩ : ∃ n, ds.length = n := ⟨_, rfl⟩
  have HNN := hid hnn
  rw [hnn] at hn hcd hoff ⊢
  have hoff2 : e0 = (off : Int) - n := by omega
  have hon : off < n := by omega
  have HON := hid hon
  have hne : ¬ (0 : Int) ≤ -e0 - (n : Int) := by omega
  have hw1 : IntKind.i64.wrap (-e0 - (n : Int)) = -(off : Int) := by rw [IntWalk.i64_in _ (by omega)]; omega
  have heq : -e0 - (n : Int) = -(off : Int) := by omega
  have HEQ := hid heq
  have HO1 := hid ho1
  clear hD hb hd hgd h0c h1c h3c h4c h5c f0 f1 f2 f3 f4 f5 hl hDg hnn hoff hoff2 heq
  have hgs : (0 : Int) ≤ (off : Int) := by omega
  have hcapn : ¬ off = capd := by omega
  go_enter Tryz.func73, Tryz.ntmps73
  go_wp2_with (first
    | (at_builtin; refine wpList_append_buf g (.tmp 44) (.tmp 47) 100 rfl rfl _ _ (ds.take off) rfl HB.out _ rfl (HD.out.src 0 off _ _ (by rw [List.drop_zero]) (by rw [List.length_take]; have := HNN.out; have := HON.out; omega)) (by have := HL.out; have := HN.out; rw [List.length_take]; omega) ?_; intro v1 W1 h1; have H1 := hid h1; clear h1)
    | (at_builtin; refine wpList_append_buf g (.tmp 49) (.tmp 50) 100 rfl rfl _ _ [46] rfl (H1.out.fr ((Fr.refl NoB _).alloc _)) _ rfl (lit_new _ _ _ rfl) (by have := HL.out; have := HN.out; have := HNN.out; simp; omega) ?_; intro v2 W2 h2; have H2 := hid h2; clear h2)
    | (at_builtin; refine wpList_append_buf g (.tmp 52) (.tmp 55) 100 rfl rfl _ _ (ds.drop off) rfl H2.out _ rfl ((HD.out.fr H2.out.frame HGD.out).src off (n - off) _ _ (by rw [List.take_of_length_le (by rw [List.length_drop]; have := HNN.out; omega)]) (by rw [List.length_drop, HNN.out])) (by have := HL.out; have := HN.out; have := HNN.out; simp; omega) ?_; intro v3 W3 h3; have H3 := hid h3; clear h3))
  go_ret
  exact ⟨v3, rfl, by simpa using H3.out⟩

set_option maxRecDepth 100000 in
set_option maxHeartbeats 2000000 in
theorem fmtF_left (D gd g : Nat) (neg : Bool) (e0 : Int) (L : Nat) (v vb vd : Value) (l ds : List UInt8) (w : World) (hD : DecAt w D 0 neg e0 false v false) (hb : BufAt w g vb l) (hd : BufAt w gd vd ds) (hgd : gd ≠ g) (hDg : D ≠ g) (hl : l.length ≤ 10) (hn : ds.length ≤ 200)
    (he : e0 < 0) (he' : -300 ≤ e0) (hL : (L : Int) = -e0 - ds.length) :
    Calls Tryz.prog 73 #[vb, .pointer (some ⟨D, 0, none⟩), vd] w (BufRes w g (l ++ [48, 46] ++ List.replicate L 48 ++ ds)) := by
  obtain ⟨⟨h0c, h1c, h2c, h3c, h4c, h5c⟩, f0, f1, f2, f3, f4, f5⟩ := hD.cells
  have HB := hid (BufSt.start hb)
  obtain ⟨capb, rfl, _⟩ := hb.shape
  obtain ⟨capd, rfl, hcd⟩ := hd.shape
  have HD := hid hd; have HGD := hid hgd; have HL := hid hl; have HN := hid hn; have HDG := hid hDg; have H2C := hid h2c
  obtain ⟨n, hnn⟩ : ∃ n, ds.length = n := ⟨_, rfl⟩
  have HNN := hid hnn
  rw [hnn] at hn hcd hL ⊢
  have hL3 : L ≤ 300 := by omega
  have hw1 : IntKind.i64.wrap (-e0 - (n : Int)) = (L : Int) := by rw [IntWalk.i64_in _ (by omega)]; omega
  have hw2 : -e0 - (n : Int) = (L : Int) := by omega
  have hw3 : ¬ (L : Int) < 0 := by omega
  clear hD hb hd hgd h0c h1c h3c h4c h5c f0 f1 f2 f3 f4 f5 hl hDg hnn hL
  go_enter Tryz.func73, Tryz.ntmps73
  go_wp2_with (at_builtin; refine wpList_append_buf g (.tmp 27) (.const (.string ⟨#[48, 46]⟩)) 9 rfl rfl _ _ [48, 46] rfl HB.out _ rfl (str_src _ [48, 46]) (by have := HL.out; simp; omega) ?_; intro v1 W1 h1; have H1 := hid h1; clear h1)
  go_loopw [0, 8] (fun b i wr => ∃ (k : Nat) (z : Value), k ≤ L ∧ i = .int .i64 k ∧ b = z ∧ Hid (BufSt w g wr z (l ++ [48, 46] ++ List.replicate k 48))) (fun _ i _ => L - (intOf i).toNat)
  case atStart => exact ⟨0, v1, Nat.zero_le _, rfl, rfl, hid (by simpa using H1.out)⟩
  case round =>
    obtain ⟨k, z, hk, rfl, rfl, hS⟩ := hrel
    by_cases hlt : k < L
    · have hlz : (k : Int) < (L : Int) := by omega
      go_wp2_with (at_builtin; refine wpList_append_buf g (.tmp 34) (.tmp 35) 100 rfl rfl _ _ [48] rfl (hS.out.fr ((Fr.refl NoB _).alloc _)) _ rfl (lit_new _ _ _ rfl) (by have := HL.out; simp; omega) ?_; intro v2 W2 h2; have H2 := hid h2; clear h2)
      exact ⟨⟨k + 1, v2, by omega, by go_num, rfl, hid (by rw [List.replicate_succ', ← List.append_assoc]; exact H2.out)⟩, by simp [intOf]; omega⟩
    · obtain rfl : k = L := by omega
      have hge : ¬ ((k : Int) < (k : Int)) := by omega
      have HSRC : Hid (Src Tryz.prog 1 100 (.slice (some ⟨gd, 0, none⟩) n capd) ds.length (bcells ds) wr) := hid ((HD.out.fr hS.out.frame HGD.out).src 0 n capd ds (by rw [List.drop_zero, List.take_of_length_le (by have := HNN.out; omega)]) HNN.out)
      have HK := hid hL3
      clear hk hlt
      go_wp2_with (at_builtin; refine wpList_append_buf g (.tmp 37) (.tmp 38) 100 rfl rfl _ _ ds rfl hS.out _ rfl HSRC.out (by have := HL.out; have := HN.out; have := HK.out; have := HNN.out; simp; omega) ?_; intro v3 W3 h3; have H3 := hid h3; clear h3)
      go_ret
      exact ⟨v3, rfl, by simpa using H3.out⟩
end Go.Proofs.YteokhhepnoelhaaGreatDoor

set_option linter.unusedVariables false
set_option linter.unusedSimpArgs false
namespace Go.Proofs.YteokhhepnoelhaaGreatDoor
open Go.RowKit Go.Shelf Go.Sort

def TabU (w : World) : Prop := Lib.TabIs Tryz.prog w "internal/strconv.uint64pow10" .u64 Lib.pow10Tab
theorem TabU.fr {w w' : World} {S : Nat → Prop} (h : TabU w) (hF : Fr S w w') (hS : ¬ S 17) : TabU w' := by
  have hg : Tryz.prog.globalNamed "internal/strconv.uint64pow10" = some 17 := by kernel_rfl
  unfold TabU Lib.TabIs World.var? at h ⊢
  simp only [hg, Option.bind_some] at h ⊢
  have hlt : 17 < w.heap.size := by
    rcases Nat.lt_or_ge 17 w.heap.size with h1 | h1
    · exact h1
    · rw [Array.getElem?_eq_none h1] at h; simp at h
  rw [hF.block 17 hlt hS]
  exact h

theorem small218 (u : Nat) (hu : u < 100) (w : World) : Calls Tryz.prog 218 #[.int .i64 (u : Int)] w fun e w' => e = .returned (.string ⟨(Lib.decDigits u).toArray⟩) ∧ w = w' :=
  (Any.internal_strconv_small (P := Tryz.prog) (ρ := Tryz.laysM176_ren) { Tryz.laysM176 with } u hu w).mono fun e w' ⟨h1, h2⟩ => ⟨h1, h2.symm⟩
theorem digits219 (u : Nat) (h1 : 1 ≤ u) (h2 : u < 18446744073709551616) (w : World) (hT : TabU w) : Calls Tryz.prog 219 #[.int .u64 (u : Int)] w fun e w' => e = .returned (.int .i64 (Lib.nDigits u : Int)) ∧ w = w' :=
  (Any.internal_strconv_numDigits (P := Tryz.prog) (ρ := Tryz.laysM176_ren) { Tryz.laysM176 with } u h1 h2 w hT).mono fun e w' ⟨h1, h2⟩ => ⟨h1, h2.symm⟩

set_option maxRecDepth 100000 in
set_option maxHeartbeats 2000000 in
theorem appUint_small (u : Nat) (hu : u < 100) (w W : World) (g : Nat) (v : Value) (l : List UInt8) (h : BufSt w g W v l) (hl : l.length ≤ 1000) :
    Calls Tryz.prog 187 #[v, .int .u64 (u : Int), .int .i64 10] W (BufRes w g (l ++ Lib.decDigits u)) := by
  have H := hid h
  have hlen : (Lib.decDigits u).length ≤ 20 := by
    rw [Lib.decDigits_length]
    by_cases h10 : u < 10
    · rw [Lib.nDigits_small h10]; omega
    · rw [Lib.nDigits_big h10, Lib.nDigits_small (show u / 10 < 10 by omega)]; omega
  have HLN := hid hlen
  have hu' : (u : Int) < 100 := by omega
  clear h hlen
  go_enter Tryz.func187, Tryz.ntmps187
  go_wp2_with (first
    | (go_at_call 218; refine (small218 u hu _).mono ?_; rintro e w1 ⟨rfl, rfl⟩)
    | (at_builtin; refine wpList_append_buf g (.tmp 13) (.tmp 16) 9 rfl rfl _ _ (Lib.decDigits u) rfl H.out _ rfl (str_src _ _) (by have := HLN.out; omega) ?_; intro v1 W1 h1; have H1 := hid h1; clear h1))
  go_ret
  exact ⟨v1, rfl, H1.out⟩

theorem bcells_eq (l : List UInt8) : bcells l = Lib.byteCells l := rfl

set_option maxRecDepth 100000 in
set_option maxHeartbeats 4000000 in
theorem appUint_big (u : Nat) (hu : 100 ≤ u) (hu2 : u ≤ 1000) (w W : World) (g : Nat) (v : Value) (l : List UInt8) (h : BufSt w g W v l) (hl : l.length ≤ 1000) (hT : TabU W) :
    Calls Tryz.prog 187 #[v, .int .u64 (u : Int), .int .i64 10] W (BufRes w g (l ++ Lib.decDigits u)) := by
  have H := hid h
  have hnd : Lib.nDigits u ≤ 20 := nDigits_le (by omega) (Nat.lt_trans (show u < 1001 by omega) (by decide +kernel))
  have hdl : (Lib.decDigits u).length = Lib.nDigits u := Lib.decDigits_length u
  have hal : Tryz.prog.arrayLen 266 = 24 := by kernel_rfl
  have hsl : ∀ Wx, (Instr.sliceAt 266 (.pointer (some ⟨W.heap.size, 0, none⟩)) none (some (.int .i64 (Lib.nDigits u : Int))) none).run Tryz.prog Wx = .ok (.slice (some ⟨W.heap.size, 0, none⟩) (Lib.nDigits u) 24) Wx := fun Wx => by
    rw [run_sliceAt_array_h Wx 266 ⟨W.heap.size, 0, none⟩ (by kernel_rfl) .i64 (Lib.nDigits u : Int) (by omega) (by rw [hal]; omega)]
    go_simp
  have hH0 := Lib.holds_zero0 W 266 (Lib.nDigits u) (by omega)
  have hfmt : Calls Tryz.prog 220 #[.slice (some ⟨W.heap.size, 0, none⟩) (Array.replicate (Lib.nDigits u) (0 : UInt8)).size 24, .int .u64 (u : Int)] (W.alloc (.cells Lib.zeros24 266)) _ :=
    Any.internal_strconv_formatBase10 (P := Tryz.prog) (ρ := Tryz.laysM176_ren) { Tryz.laysM176 with } W.heap.size 0 24 u (Array.replicate (Lib.nDigits u) 0) (W.alloc (.cells Lib.zeros24 266)) hH0 (by rw [Array.size_replicate]; exact Lib.lt_pow_nDigits u) (by omega) (by rw [Array.size_replicate]; omega)
  rw [Array.size_replicate] at hfmt
  have HF := hid hfmt
  have HH0 := hid hH0
  have iu : ¬ (u : Int) < 100 := by omega
  have HTB := hid (hT.fr ((Fr.refl NoB W).alloc (.cells Lib.zeros24 266)) (fun h => h))
  have HND := hid hnd; have HDL := hid hdl
  clear hH0 hal hfmt h hT hdl
  go_enter Tryz.func187, Tryz.ntmps187
  go_wp2_with (first
    | (go_at_call 219; refine (digits219 u (by omega) (by omega) _ HTB.out).mono ?_; rintro e w1 ⟨rfl, rfl⟩))
  refine HF.out.mono ?_
  rintro e w2 ⟨rfl, k, v', dk, rfl, hInv⟩
  have hcells : ∀ j u', (Lib.byteCells (Lib.decDigits u))[j]? = some u' → ((putRow (fun (b : UInt8) => Value.int .u8 (b.toNat : Int)) (W.alloc (.cells Lib.zeros24 266)) W.heap.size 0 dk).drewN k).cell? ((⟨W.heap.size, 0, none⟩ : Addr).add j) = some u' := by
    intro j u' hj
    have hjl : j < (Lib.decDigits u).length := by
      have h5 := (List.getElem?_eq_some_iff.1 hj).1
      rwa [Lib.byteCells_length] at h5
    have e5 : (Lib.byteCells (Lib.decDigits u))[j]? = some (Value.int .u8 ((Lib.decDigits u)[j].toNat : Int)) := by simp [Lib.byteCells, hjl]
    rw [e5] at hj
    cases hj
    rw [Lib.row_is_numeral hInv j hjl, Lib.add_plain, World.cell?_drewN]
    exact cell?_putRow (fun (b : UInt8) => Value.int .u8 (b.toNat : Int)) _ W.heap.size 0 _ dk HH0.out (by rw [hInv.size, Array.size_replicate]) j (by rw [hInv.size]; have := HDL.out; omega)
  obtain ⟨os, eo⟩ := Lib.fin_at W (.cells Lib.zeros24 266) dk k 0
  have hF : Fr NoB W ((putRow (fun (b : UInt8) => Value.int .u8 (b.toNat : Int)) (W.alloc (.cells Lib.zeros24 266)) W.heap.size 0 dk).drewN k) := by
    rw [eo]; exact Fr.of_below (Lib.below_grow W.heap.size W (Nat.le_refl _) k os) _
  have H2 := hid (H.out.fr hF)
  have HC := hid hcells
  clear hcells hF eo
  generalize (putRow (fun (b : UInt8) => Value.int .u8 (b.toNat : Int)) (W.alloc (.cells Lib.zeros24 266)) W.heap.size 0 dk).drewN k = W2 at *
  have HS : Hid (Src Tryz.prog 1 100 (.slice (some ⟨W.heap.size, 0, none⟩) (Lib.nDigits u) 24) (Lib.decDigits u).length (bcells (Lib.decDigits u)) W2) := hid (by
    rw [HDL.out]
    exact Src.ofSlice (P := Tryz.prog) W2 Tryz.underlying100 ⟨W.heap.size, 0, none⟩ (Lib.nDigits u) 24 (bcells (Lib.decDigits u)) (by rw [bcells_length, HDL.out]; omega) HC.out (fun x hx => by
      unfold bcells at hx
      obtain ⟨b, _, rfl⟩ := List.mem_map.1 hx
      rfl))
  go_wp2_with (at_builtin; refine wpList_append_buf g (.tmp 24) (.tmp 26) 100 rfl rfl _ _ (Lib.decDigits u) rfl H2.out _ rfl HS.out (by have := HDL.out; have := HND.out; omega) ?_; intro v1 W1 h1; have H1 := hid h1; clear h1)
  go_ret
  exact ⟨v1, rfl, H1.out⟩

set_option maxRecDepth 100000 in
set_option maxHeartbeats 2000000 in
theorem appOk (w : World) (g : Nat) (hg : 17 ≠ g) (hT : TabU w) : AppOk w g := by
  intro W v l n h hl hn
  have HU : Hid (Calls Tryz.prog 187 #[v, .int .u64 (n : Int), .int .i64 10] W (BufRes w g (l ++ Lib.decDigits n))) := hid (by
    by_cases hlt : n < 100
    · exact appUint_small n hlt w W g v l h hl
    · exact appUint_big n (by omega) hn w W g v l h hl (hT.fr h.frame hg))
  have c1 : IntKind.u64.wrap (n : Int) = (n : Int) := by rw [u64_wrap]; omega
  have c0 : ¬ (n : Int) < 0 := by omega
  clear h hT
  go_enter Tryz.func113, Tryz.ntmps113
  go_wp2_with (first | (go_at_call 155; go_in))
  refine HU.out.mono ?_
  rintro e W1 ⟨v1, rfl, h1⟩
  have H1 := hid h1
  clear h1
  go_wp2_with fail
  go_ret
  exact ⟨v1, rfl, H1.out⟩
end Go.Proofs.YteokhhepnoelhaaGreatDoor
