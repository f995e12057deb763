/-
  A text with a byte that no number has, or without figures, is none, and 1 is one: the tied card of laws.FnParseFails, for every text. The listed package variables hold what the program's text lays (the given tie).
-/
import Derived.Test.YteokhhepnoelhaaGreatDoorBigD
import Derived.OwnWalk
import Derived.Test.YteokhhepnoelhaaGreatDoorFailChain
import Derived.Test.YteokhhepnoelhaaGreatDoorNumD
import Derived.Test.YteokhhepnoelhaaGreatDoorSetExp
import Derived.ProofKit
import Derived.Lib.LaidU8
import Derived.KernelRfl
import Derived.Test.YteokhhepnoelhaaGreatDoorRows
import Derived.OpenVars
import Derived.Test.YteokhhepnoelhaaGreatDoorFailLaw
import Derived.PinnedBridge
import Derived.Lib.LaidCase
import Derived.Stop.LaidErr
import Derived.Lay
import Derived.MakeChecks
import Derived.ChangeMaps5
import Derived.Test.YteokhhepnoelhaaGreatDoorFailFacts
import Derived.Test.YteokhhepnoelhaaGreatDoorCards
import Derived.Test.YteokhhepnoelhaaGreatDoorTie
import Derived.SevenTiedAt

set_option linter.unusedVariables false
set_option linter.unusedSimpArgs false
namespace Go.Proofs.YteokhhepnoelhaaGreatDoor
open Go.RowKit

theorem Tryz.info36 : (Tryz.prog.info? 36).map (fun i => (i.zero, i.size, i.bytes)) = some (some (.int .u64 0), 1, 8) := by kernel_rfl

/-- A copy of a BigInt's number. -/
def MathRes (w : World) (xs : List Nat) (e : Ending) (w' : World) : Prop :=
  e = .returned (.pointer (some ⟨w.heap.size, 0, none⟩)) ∧ ∃ v', BlkAt w' w.heap.size #[.bool false, v'] 68 ∧ NatAt w' v' xs ∧ Fr NoB w w'

set_option maxRecDepth 100000 in
set_option maxHeartbeats 1000000 in
theorem mathBigInt (D o : Nat) (cs : Array Value) (t : TypeId) (v : Value) (xs : List Nat) (w : World) (hD : BlkAt w D cs t) (d0 : cs[o]? = some (.bool false)) (d1 : cs[o + 1]? = some v) (hv : NatAt w v xs) (hl : xs.length ≤ 900) :
    Calls Tryz.prog 49 #[.pointer (some ⟨D, o, none⟩)] w (MathRes w xs) := by
  have hb := blk_new w (.cells #[.bool false, .slice none 0 0] 68 (0, 0))
  have hF : Fr NoB w (w.alloc (.cells #[.bool false, .slice none 0 0] 68)) := (Fr.refl _ _).alloc _
  have hDl := blk_lt hD
  have HS := hid (intSet w.heap.size 0 D o #[.bool false, .slice none 0 0] cs 68 t false false (.slice none 0 0) v [] xs _ hb rfl rfl (hF.blk hD (fun h => h)) d0 d1 (NatAt.nil _) (hv.fr hF (fun _ _ h => h)) hl (fun e => by omega) (fun g h => by cases h))
  have fin : ∀ w1, SetRes (w.alloc (.cells #[.bool false, .slice none 0 0] 68)) w.heap.size 0 #[.bool false, .slice none 0 0] 68 (.slice none 0 0) false xs w1 → MathRes w xs (.returned (.pointer (some ⟨w.heap.size, 0, none⟩))) w1 := by
    rintro w1 ⟨v', r1, r2, r3, r4⟩
    exact ⟨rfl, v', r1, r2, hF.trans r4 (fun i hi h => by
      rcases h with h | h
      · omega
      · cases h)⟩
  have FIN := hid fin
  clear hb hF hD d0 d1 hv fin
  go_enter Tryz.func49, Tryz.ntmps49
  go_wp2_with fail
  refine HS.out.mono ?_
  rintro e w1 ⟨rfl, r⟩
  have N := hid (FIN.out w1 r)
  clear r
  go_wp2_with fail
  go_ret
  exact N.out

/-- The words of a number, in a slice of the call's own. -/
def WordsRes (w : World) (xs : List Nat) (e : Ending) (w' : World) : Prop :=
  ∃ v', e = .returned v' ∧ w'.ownsRow w.heap.size 36 1 v' xs.length (u64s xs) ∧ Fr NoB w w'

set_option maxRecDepth 100000 in
set_option maxHeartbeats 2000000 in
theorem implWords (D o : Nat) (cs : Array Value) (t : TypeId) (v : Value) (xs : List Nat) (w : World) (hD : BlkAt w D cs t) (d0 : cs[o]? = some (.bool false)) (d1 : cs[o + 1]? = some v) (hv : NatAt w v xs) (hl : xs.length ≤ 900) (hb : ∀ x ∈ xs, x < WB) :
    Calls Tryz.prog 38 #[.pointer (some ⟨D, o, none⟩)] w (WordsRes w xs) := by
  obtain ⟨i0, hi, hz0, hz1, hz2⟩ := info_parts Tryz.info36
  have HM := hid (mathBigInt D o cs t v xs w hD d0 d1 hv hl)
  have HI := hid hi
  clear hD d0 d1 hv hb
  go_enter Tryz.func38, Tryz.ntmps38
  go_wp2_with fail
  refine HM.out.mono ?_
  rintro e w1 ⟨rfl, v1, r1, r2, hF⟩
  have c1 : w1.cell? ⟨w.heap.size, 1, none⟩ = some v1 := by rw [blk_cell r1]; rfl
  have HN := hid r2; have HF := hid hF
  obtain ⟨A, c, rfl⟩ := r2.shape
  have hEl := blk_lt r1
  clear r1 r2 hF
  go_wp2_with (first | (go_at_call 50; go_in))
  have h0 : w1.ownsRow w1.heap.size 36 1 (.slice none 0 0) 0 (u64s (xs.take 0)) := ⟨by simp [u64s], .inl ⟨rfl, rfl⟩⟩
  have H0 := hid h0
  clear h0
  go_loopw [3, 10] (fun o i wr => ∃ (k : Nat) (ov : Value), ov = o ∧ k ≤ xs.length ∧ i = .int .i64 k ∧ Hid (wr.ownsRow w1.heap.size 36 1 ov k (u64s (xs.take k))) ∧ Hid (Below w1.heap.size w1 wr)) (fun _ i _ => xs.length - (intOf i).toNat)
  case atStart => exact ⟨0, _, rfl, Nat.zero_le _, rfl, H0, hid (Below.refl _ _)⟩
  case round =>
    obtain ⟨k, ov, rfl, hk, rfl, hO, hB⟩ := hrel
    by_cases hlt : k < xs.length
    · obtain ⟨x, hxk⟩ : ∃ x, xs[k]? = some x := ⟨xs[k], List.getElem?_eq_getElem hlt⟩
      obtain ⟨g, cap, hge, hc, hcap, hgl, hcm, _⟩ := HN.out.cell (fun h => by rw [h] at hlt; simp at hlt)
      cases hge
      have hFr : Fr NoB w1 wr := Fr.of_below hB.out _
      have hcell : wr.cell? ⟨g, k, none⟩ = some (.int .u64 (x : Int)) := hFr.cell' (hc k x hxk) (fun h => h)
      have htk : u64s (xs.take (k + 1)) = u64s (xs.take k) ++ [.int .u64 (x : Int)] := by
        rw [List.take_add_one, hxk, u64s_append]; rfl
      have HTK := hid htk
      have hbs : w1.heap.size ≤ wr.heap.size := hB.out.size
      clear hxk hc htk hFr
      go_wp2_with (at_builtin; refine wpList_append_own _ rfl (.tmp 14) (.tmp 16) 28 rfl w1.heap.size 36 i0 (.int .u64 0) 1 8 Tryz.underlying28 HI.out hz0 hz1 hz2 rfl (by decide) ov k (u64s (xs.take k)) rfl (hO.out.alloc _) ⟨wr.heap.size, 0, none⟩ 1 1 [.int .u64 (x : Int)] rfl rfl (cell_one_new _ _ _) (by simp [Value.oneCell']) (by unfold maxLen; omega) (by omega) (by simp; omega) ?_; intro v' w5 hown hgr _; refine Hid.out ?_)
      refine hid ?_
      rw [← HTK.out] at hown
      have HB5 : Hid (Below w1.heap.size w1 w5) := hid ((hB.out.alloc hbs _).grown hgr (by simp; omega) (by
        obtain ⟨_, h | ⟨g', cap', cur', h, h2, _⟩⟩ := hO.out
        · rw [h.1]; intro b hb; cases hb
        · rw [h]; intro b hb; cases hb; exact h2))
      have HO5 := hid hown
      clear hown hgr
      go_wp2_with fail
      go_roundw
      case rel => first | exact ⟨k + 1, _, rfl, by omega, by go_num, HO5, HB5⟩ | ((repeat apply Exists.intro); exact ⟨⟨k + 1, _, rfl, by omega, by go_num, HO5, HB5⟩, rfl⟩)
      case measure => simp [intOf]; omega
    · obtain rfl : k = xs.length := by omega
      have hO2 := hO.out
      rw [List.take_length] at hO2
      have hF2 : Fr NoB w wr := HF.out.trans (Fr.of_below hB.out NoB) (fun _ _ h => h)
      have hO3 : wr.ownsRow w.heap.size 36 1 ov xs.length (u64s xs) := by
        obtain ⟨h1, h | ⟨g', cap', cur', h, h2, h3⟩⟩ := hO2
        · exact ⟨h1, .inl h⟩
        · exact ⟨h1, .inr ⟨g', cap', cur', h, by omega, h3⟩⟩
      have N := hid (show WordsRes w xs (.returned ov) wr from ⟨ov, rfl, hO3, hF2⟩)
      clear hO2 hF2 hO3
      go_wp2_with fail
      go_ret
      exact N.out
end Go.Proofs.YteokhhepnoelhaaGreatDoor

set_option linter.unusedVariables false
set_option linter.unusedSimpArgs false
namespace Go.Proofs.YteokhhepnoelhaaGreatDoor
open Go.RowKit

/-- A finite decimal as plain data. -/
def ToldRes (w : World) (neg : Bool) (V : Nat) (e0 : Int) (e : Ending) (w' : World) : Prop :=
  ∃ A n c, e = .returned (.agg #[.int .i64 0, .bool neg, .slice A n c, .int .i64 e0]) ∧ w'.ownsRow w.heap.size 36 1 (.slice A n c) (limbs V).length (u64s (limbs V)) ∧ Fr NoB w w'

theorem ownsRow_shape {w : World} {B n : Nat} {v : Value} {xs : List Value} (h : w.ownsRow B 36 1 v n xs) : ∃ A m c, v = .slice A m c := by
  obtain ⟨_, h | ⟨g', cap', cur', h, _⟩⟩ := h
  · exact ⟨_, _, _, h.1⟩
  · exact ⟨_, _, _, h⟩

set_option maxRecDepth 100000 in
set_option maxHeartbeats 2000000 in
theorem told_num (D : Nat) (neg : Bool) (e0 : Int) (v : Value) (V : Nat) (w : World) (hD : DecAt w D 0 neg e0 false v false) (hv : NatAt w v (limbs V)) (hl : (limbs V).length ≤ 900) (he0 : -1000000 ≤ e0) (he1 : e0 ≤ 1000000) :
    Calls Tryz.prog 25 #[.pointer (some ⟨D, 0, none⟩)] w (ToldRes w neg V e0) := by
  obtain ⟨⟨h0, h1, h2, h3, h4, h5⟩, f0, f1, f2, f3, f4, f5⟩ := hD.cells
  have hlt := blk_lt hD
  have HD := hid hD; have HV := hid hv
  clear hD hv
  go_enter Tryz.func25, Tryz.ntmps25
  go_wp2_with fail
  have hF0 : Fr NoB w ((w.alloc (.cells #[.int .i64 0, .bool false, .slice none 0 0, .int .i64 0] 30)).alloc (.cells #[.int .i64 0, .bool neg, .slice none 0 0, .int .i64 0] 30)) := ((Fr.refl _ _).alloc _).alloc _
  have hR : ((w.alloc (.cells #[.int .i64 0, .bool false, .slice none 0 0, .int .i64 0] 30)).alloc (.cells #[.int .i64 0, .bool neg, .slice none 0 0, .int .i64 0] 30)).heap[w.heap.size]? = some (.cells #[.int .i64 0, .bool false, .slice none 0 0, .int .i64 0] 30 (0, 0)) := blk_alloc (blk_new w _) _
  have hO : ((w.alloc (.cells #[.int .i64 0, .bool false, .slice none 0 0, .int .i64 0] 30)).alloc (.cells #[.int .i64 0, .bool neg, .slice none 0 0, .int .i64 0] 30)).heap[w.heap.size + 1]? = some (.cells #[.int .i64 0, .bool neg, .slice none 0 0, .int .i64 0] 30 (0, 0)) := by
    have := blk_new (w.alloc (.cells #[.int .i64 0, .bool false, .slice none 0 0, .int .i64 0] 30)) (.cells #[.int .i64 0, .bool neg, .slice none 0 0, .int .i64 0] 30 (0, 0))
    rw [World.size_alloc] at this
    exact this
  generalize ((w.alloc (.cells #[.int .i64 0, .bool false, .slice none 0 0, .int .i64 0] 30)).alloc (.cells #[.int .i64 0, .bool neg, .slice none 0 0, .int .i64 0] 30)) = W at *
  have hDW := HD.out.fr hF0 (fun h => h)
  have hFd : Fr NoB W W.drew := (Fr.refl _ _).drew
  have HWD := hid (implWords D 3 _ 72 v (limbs V) W.drew (show BlkAt W.drew D #[.int .i8 0, .bool neg, .int .i32 e0, .bool false, v, .bool false] 72 from hDW) rfl rfl ((HV.out.fr hF0 (fun _ _ h => h)).fr hFd (fun _ _ h => h)) hl (limbs_lt V))
  have q2 : W.cell? ⟨D, 2, none⟩ = some (.int .i32 e0) := by rw [blk_cell hDW]; rfl
  have o2 : W.cell? ⟨w.heap.size + 1, 2, none⟩ = some (.slice none 0 0) := by rw [blk_cell hO]; rfl
  have o3 : W.cell? ⟨w.heap.size + 1, 3, none⟩ = some (.int .i64 0) := by rw [blk_cell hO]; rfl
  have HF0 := hid hF0; have HR := hid hR; have HO := hid hO
  have hsW : w.heap.size + 1 < W.heap.size := blk_lt hO
  clear hF0 hR hO hDW hFd h0 h1 h2 h3 h4 h5 f0 f1 f2 f3 f4 f5
  go_region_with (first | (go_at_call 38; refine HWD.out.mono ?_; rintro e w2 ⟨v', rfl, hown, hF2⟩; obtain ⟨A, n, c, rfl⟩ := ownsRow_shape hown; have q2' : w2.cell? ⟨D, 2, none⟩ = some (.int .i32 e0) := hF2.cell' (w := W.drew) q2 (fun h => h); have o2' : w2.cell? ⟨w.heap.size + 1, 2, none⟩ = some (.slice none 0 0) := hF2.cell' (w := W.drew) o2 (fun h => h); have o3' : w2.cell? ⟨w.heap.size + 1, 3, none⟩ = some (.int .i64 0) := hF2.cell' (w := W.drew) o3 (fun h => h); have hO2 : w2.heap[w.heap.size + 1]? = some (.cells #[.int .i64 0, .bool neg, .slice none 0 0, .int .i64 0] 30 (0, 0)) := hF2.blk (w := W.drew) HO.out (fun h => h); have u2 : w2.frozen? ⟨w.heap.size + 1, 2, none⟩ = false := blk_frozen hO2 _; have u3 : w2.frozen? ⟨w.heap.size + 1, 3, none⟩ = false := blk_frozen hO2 _; have HO2 := hid hO2; have HF2 := hid hF2; have HOWN := hid hown; clear hO2 hF2 hown))
  all_goals
    have s2 := blk_set HO2.out 2 (.slice A n c)
    have s3 := blk_set s2 3 (.int .i64 (IntKind.i64.wrap e0))
    have hR2 : w2.heap[w.heap.size]? = some (.cells #[.int .i64 0, .bool false, .slice none 0 0, .int .i64 0] 30 (0, 0)) := HF2.out.blk (w := W.drew) HR.out (fun h => h)
    have hFs : Fr (fun i => i = w.heap.size + 1) w2 ((w2.setCell ⟨w.heap.size + 1, 2, none⟩ (.slice A n c)).setCell ⟨w.heap.size + 1, 3, none⟩ (.int .i64 (IntKind.i64.wrap e0))) :=
      Fr.setCell (S := fun i => i = w.heap.size + 1) (p := ⟨w.heap.size + 1, 3, none⟩) (Fr.setCell (S := fun i => i = w.heap.size + 1) (p := ⟨w.heap.size + 1, 2, none⟩) (Fr.refl _ _) (fun _ => rfl) _) (fun _ => rfl) _
    have hR3 := hFs.blk hR2 (by omega)
    have hown3 : ((w2.setCell ⟨w.heap.size + 1, 2, none⟩ (.slice A n c)).setCell ⟨w.heap.size + 1, 3, none⟩ (.int .i64 (IntKind.i64.wrap e0))).ownsRow W.heap.size 36 1 (.slice A n c) (limbs V).length (u64s (limbs V)) := by
      obtain ⟨a1, a2 | ⟨g', cap', cur', a2, a3, a4, a5⟩⟩ := HOWN.out
      · exact ⟨a1, .inl a2⟩
      · have a3 : W.heap.size ≤ g' := a3
        exact ⟨a1, .inr ⟨g', cap', cur', a2, a3, hFs.blk a4 (by omega), a5⟩⟩
    have hF3 : Fr NoB w ((w2.setCell ⟨w.heap.size + 1, 2, none⟩ (.slice A n c)).setCell ⟨w.heap.size + 1, 3, none⟩ (.int .i64 (IntKind.i64.wrap e0))) :=
      (HF0.out.trans ((Fr.refl NoB W).drew.trans HF2.out (fun _ _ h => h)) (fun _ _ h => h)).trans hFs (fun i hi h => by have h : i = w.heap.size + 1 := h; omega)
    have s3' : ((w2.setCell ⟨w.heap.size + 1, 2, none⟩ (.slice A n c)).setCell ⟨w.heap.size + 1, 3, none⟩ (.int .i64 (IntKind.i64.wrap e0))).heap[w.heap.size + 1]? = some (.cells #[.int .i64 0, .bool neg, .slice A n c, .int .i64 e0] 30 (0, 0)) := by
      have := s3
      rw [show IntKind.i64.wrap e0 = e0 from IntWalk.i64_in _ (by omega)] at this ⊢
      exact this
    clear s2 s3 hR2 hFs q2' o2' o3' u2 u3 HO2 HF2 HOWN q2 o2 o3
    generalize ((w2.setCell ⟨w.heap.size + 1, 2, none⟩ (.slice A n c)).setCell ⟨w.heap.size + 1, 3, none⟩ (.int .i64 (IntKind.i64.wrap e0))) = w3 at *
    have o0 := blk_cell s3' 0; have o1 := blk_cell s3' 1; have o2 := blk_cell s3' 2; have o3 := blk_cell s3' 3
    have r0 := blk_cell hR3 0; have r1 := blk_cell hR3 1; have r2 := blk_cell hR3 2; have r3 := blk_cell hR3 3
    have g0 := blk_frozen hR3 0; have g1 := blk_frozen hR3 1; have g2 := blk_frozen hR3 2; have g3 := blk_frozen hR3 3
    simp only [List.getElem?_toArray, List.getElem?_cons_zero, List.getElem?_cons_succ] at o0 o1 o2 o3 r0 r1 r2 r3
    have HOWN := hid hown3; have HF3 := hid hF3; have HR3 := hid hR3
    clear hown3 hF3 hR3 s3'
    go_wp2_with fail
    refine bodyPost_ret (v := .agg #[.int .i64 0, .bool neg, .slice A n c, .int .i64 e0]) (by simp [results, Tryz.results25, go_sem, r0, r1, r2, r3]) rfl ?_
    have fin : ∀ a : World, Fr (fun i => i = w.heap.size) w3 a → ToldRes w neg V e0 (.returned (.agg #[.int .i64 0, .bool neg, .slice A n c, .int .i64 e0])) a := by
      intro a hFe
      refine ⟨A, n, c, rfl, ?_, HF3.out.trans hFe (fun i hi h => by omega)⟩
      obtain ⟨a1, a2 | ⟨g', cap', cur', a2, a3, a4, a5⟩⟩ := HOWN.out
      · exact ⟨a1, .inl a2⟩
      · exact ⟨a1, .inr ⟨g', cap', cur', a2, by omega, hFe.blk a4 (by omega), a5⟩⟩
    exact fin _ (Fr.setCell (S := fun i => i = w.heap.size) (p := ⟨w.heap.size, 3, none⟩) (Fr.setCell (S := fun i => i = w.heap.size) (p := ⟨w.heap.size, 2, none⟩) (Fr.setCell (S := fun i => i = w.heap.size) (p := ⟨w.heap.size, 1, none⟩) (Fr.setCell (S := fun i => i = w.heap.size) (p := ⟨w.heap.size, 0, none⟩) (Fr.refl _ _) (fun _ => rfl) _) (fun _ => rfl) _) (fun _ => rfl) _) (fun _ => rfl) _)
end Go.Proofs.YteokhhepnoelhaaGreatDoor

set_option linter.unusedVariables false
set_option linter.unusedSimpArgs false
namespace Go.Proofs.YteokhhepnoelhaaGreatDoor
open Go.RowKit

/-- NumDigits answers nd at every decimal that holds V. -/
def DigOk (V : Nat) (nd : Int) : Prop := ∀ (D : Nat) (f : Int) (n : Bool) (e0 : Int) (v : Value) (w : World), DecAt w D f n e0 false v false → NatAt w v (limbs V) → Thr w →
  Calls Tryz.prog 88 #[.pointer (some ⟨D, 0, none⟩)] w fun e w' => e = .returned (.int .i64 nd) ∧ Fr NoB w w'

theorem digOk_same (V b d : Nat) (hb : blen V = b) (hb1 : 1 ≤ b) (hb2 : b < 128) (hd : tabDigits b = d) (ht : tabDigits (b + 1) = d) : DigOk V (d : Int) := by
  intro D f n e0 v w hD hv hT
  have hN := hid (numDigits_same D 3 v V b d w (by rw [blk_cell hD]; rfl) hv hT hb hb1 hb2 hd ht)
  clear hD hv hT hb hd ht
  go_enter Tryz.func88, Tryz.ntmps88
  go_wp2_with fail
  refine hN.out.mono ?_
  rintro e w1 ⟨rfl, hF⟩
  have HF := hid hF
  clear hF
  go_wp2_with fail
  go_ret
  exact ⟨rfl, HF.out⟩

def NumRes (w : World) (D : Nat) (neg : Bool) (V : Nat) (e0 : Int) (e : Ending) (w' : World) : Prop :=
  e = .returned (.tuple #[.pointer (some ⟨D, 0, none⟩), .int .u32 0, .nilIface]) ∧ ∃ v, NatAt w' v (limbs V) ∧ DecAt w' D 0 neg e0 false v false ∧ Fr (fun i => i = D) w w'

set_option maxRecDepth 100000 in
set_option maxHeartbeats 1000000 in
theorem ctxSetString_num (D cb : Nat) (l : List UInt8) (neg : Bool) (ds : List UInt8) (es : List Int) (nd : Int) (w : World) (traps : Int) (r : ByteArray) (hC : CtxAt w cb 0 100000 (-100000) traps r) (hne : cb ≠ D) (hT : Thr w) (hD19 : 19 ≤ D) (hDl : D < w.heap.size)
    (hN : DigOk (decVal ds) nd) (hnd : 1 ≤ nd) (hnd' : nd ≤ 1000) (helo : -90000 ≤ es.sum) (hehi : es.sum ≤ 90000)
    (hS : Calls Tryz.prog 41 #[.pointer (some ⟨D, 0, none⟩), .pointer (some ⟨cb, 0, none⟩), .string ⟨l.toArray⟩] w (GoodEnd w D neg ds es)) :
    Calls Tryz.prog 30 #[.pointer (some ⟨cb, 0, none⟩), .pointer (some ⟨D, 0, none⟩), .string ⟨l.toArray⟩] w (NumRes w D neg (decVal ds) es.sum) := by
  have HC := hid hC; have HS := hid hS; have HT := hid hT; have HN := hid hN
  clear hC hS hT hN
  go_enter Tryz.func30, Tryz.ntmps30
  go_wp2_with fail
  refine HS.out.mono ?_
  rintro e w1 ⟨rfl, v, hv, hD1, hF1, hg⟩
  obtain ⟨A, c, hsh⟩ := hv.shape
  have hT1 := HT.out.fr hF1 (fun i hi h => by have h : i = D := h; omega)
  have hR := round_zero D cb 0 neg es.sum false A (limbs (decVal ds)).length c false nd w1 (by rw [← hsh]; exact hD1) traps r (HC.out.fr hF1 hne) (by omega) (by omega) hnd hnd' (by omega) (by omega) (HN.out D 0 neg es.sum v w1 hD1 hv hT1)
  rw [← hsh] at hR
  have HR := hid hR; have HV := hid hv; have HG := hid hg; have HF1 := hid hF1
  clear hR hv hg hF1 hD1 hT1 hsh
  go_wp2_with fail
  refine HR.out.mono ?_
  rintro e w2 ⟨rfl, hD2, hF2⟩
  have hN : NumRes w D neg (decVal ds) es.sum (.returned (.tuple #[.pointer (some ⟨D, 0, none⟩), .int .u32 0, .nilIface])) w2 :=
    ⟨rfl, v, HV.out.fr hF2 (fun g hg h => by have h : g = D := h; have := HG.out g hg; omega), hD2, HF1.out.trans hF2 (fun _ _ h => h)⟩
  have N := hid hN
  clear hD2 hF2 hN
  go_wp2_with (go_at_call 43; go_in)
  go_ret3
  exact N.out

/-- impl.Parse at a number. -/
def ParseRes (w : World) (neg : Bool) (V : Nat) (e0 : Int) (e : Ending) (w' : World) : Prop :=
  ∃ A n c, e = .returned (.tuple #[.agg #[.int .i64 0, .bool neg, .slice A n c, .int .i64 e0], .int .i64 0, .bool true]) ∧ w'.ownsRow w.heap.size 36 1 (.slice A n c) (limbs V).length (u64s (limbs V)) ∧ Fr NoB w w'

set_option maxRecDepth 100000 in
set_option maxHeartbeats 1000000 in
theorem parse_num (l : List UInt8) (neg : Bool) (ds : List UInt8) (es : List Int) (nd : Int) (w : World) (r : ByteArray) (hC : CtxAt w 0 0 100000 (-100000) 1967 r) (hT : Thr w)
    (hN : DigOk (decVal ds) nd) (hnd : 1 ≤ nd) (hnd' : nd ≤ 1000) (helo : -90000 ≤ es.sum) (hehi : es.sum ≤ 90000) (hlen : (limbs (decVal ds)).length ≤ 900)
    (hS : ∀ (D : Nat) (w1 : World), DecAt w1 D 0 false 0 false (.slice none 0 0) false → Fr NoB w w1 → w.heap.size ≤ D → Calls Tryz.prog 41 #[.pointer (some ⟨D, 0, none⟩), .pointer (some ⟨0, 0, none⟩), .string ⟨l.toArray⟩] w1 (GoodEnd w1 D neg ds es)) :
    Calls Tryz.prog 9 #[.string ⟨l.toArray⟩] w (ParseRes w neg (decVal ds) es.sum) := by
  have HC := hid hC; have HS := hid hS; have HT := hid hT; have HN := hid hN
  have h19 := hT.size
  clear hC hS hT hN
  go_enter Tryz.func9, Tryz.ntmps9
  go_wp2_with (first | (go_at_call 23; go_in) | (go_at_call 37; go_in))
  have hR0 : ((w.alloc (.cells #[.int .i64 0, .bool false, .slice none 0 0, .int .i64 0] 30)).alloc (.cells #[.int .i8 0, .bool false, .int .i32 0, .bool false, .slice none 0 0, .bool false] 72)).heap[w.heap.size]? = some (.cells #[.int .i64 0, .bool false, .slice none 0 0, .int .i64 0] 30 (0, 0)) :=
    blk_alloc (blk_new w _) _
  have hD0 : DecAt ((w.alloc (.cells #[.int .i64 0, .bool false, .slice none 0 0, .int .i64 0] 30)).alloc (.cells #[.int .i8 0, .bool false, .int .i32 0, .bool false, .slice none 0 0, .bool false] 72)) (w.heap.size + 1) 0 false 0 false (.slice none 0 0) false := by
    have := blk_new (w.alloc (.cells #[.int .i64 0, .bool false, .slice none 0 0, .int .i64 0] 30)) (.cells #[.int .i8 0, .bool false, .int .i32 0, .bool false, .slice none 0 0, .bool false] 72 (0, 0))
    rw [World.size_alloc] at this
    exact this
  have hF0 : Fr NoB w ((w.alloc (.cells #[.int .i64 0, .bool false, .slice none 0 0, .int .i64 0] 30)).alloc (.cells #[.int .i8 0, .bool false, .int .i32 0, .bool false, .slice none 0 0, .bool false] 72)) :=
    ((Fr.refl _ _).alloc _).alloc _
  have HR0 := hid hR0; have HD0 := hid hD0; have HF0 := hid hF0
  clear hR0 hD0 hF0
  generalize hW : ((w.alloc (.cells #[.int .i64 0, .bool false, .slice none 0 0, .int .i64 0] 30)).alloc (.cells #[.int .i8 0, .bool false, .int .i32 0, .bool false, .slice none 0 0, .bool false] 72)) = W at *
  clear hW
  have hWl : w.heap.size + 1 < W.heap.size := blk_lt HD0.out
  refine (ctxSetString_num (w.heap.size + 1) 0 l neg ds es nd W 1967 r (HC.out.fr HF0.out (fun h => h)) (by omega) (HT.out.fr HF0.out (fun _ _ h => h)) (by omega) hWl HN.out hnd hnd' helo hehi (HS.out _ _ HD0.out HF0.out (by omega))).mono ?_
  rintro e w1 ⟨rfl, v, hv1, hD1, hF1⟩
  have HR1 := hid (hF1.blk HR0.out (by omega))
  have HD1 := hid hD1; have HV1 := hid hv1
  have HF1 := hid ((HF0.out.trans hF1 (fun i hi h => by omega) : Fr NoB w w1))
  clear hD1 hF1 hv1
  go_wp2_with fail
  refine (told_num _ neg es.sum v (decVal ds) _ HD1.out HV1.out hlen (by omega) (by omega)).mono ?_
  rintro e w2 ⟨A, n, c, rfl, hown, hF2⟩
  have hR2 := hF2.blk HR1.out (fun h => h)
  have HF2 := hid (HF1.out.trans hF2 (fun _ _ h => h)); have HOWN := hid hown
  have hR1l := blk_lt HR1.out
  have r0 := blk_cell hR2 0; have r1 := blk_cell hR2 1; have r2 := blk_cell hR2 2; have r3 := blk_cell hR2 3
  have g0 := blk_frozen hR2 0; have g1 := blk_frozen hR2 1; have g2 := blk_frozen hR2 2; have g3 := blk_frozen hR2 3
  clear hF2 hR2 hown
  simp only [List.getElem?_toArray, List.getElem?_cons_zero, List.getElem?_cons_succ] at r0 r1 r2 r3
  go_wp2_with (go_at_call 24; refine (conditions_0 _).mono ?_; rintro e w3 ⟨rfl, rfl⟩)
  refine bodyPost_ret (v := .tuple #[.agg #[.int .i64 0, .bool neg, .slice A n c, .int .i64 es.sum], .int .i64 0, .bool true]) (by simp [results, Tryz.results9, go_sem, r0, r1, r2, r3]) rfl ?_
  have fin : ∀ a : World, Fr (fun i => i = w.heap.size) w2 a → ParseRes w neg (decVal ds) es.sum (.returned (.tuple #[.agg #[.int .i64 0, .bool neg, .slice A n c, .int .i64 es.sum], .int .i64 0, .bool true])) a := by
    intro a hFe
    refine ⟨A, n, c, rfl, ?_, HF2.out.trans hFe (fun i hi h => by omega)⟩
    obtain ⟨a1, a2 | ⟨g', cap', cur', a2, a3, a4, a5⟩⟩ := HOWN.out
    · exact ⟨a1, .inl a2⟩
    · exact ⟨a1, .inr ⟨g', cap', cur', a2, by omega, hFe.blk a4 (by omega), a5⟩⟩
  exact fin _ (Fr.setCell (S := fun i => i = w.heap.size) (p := ⟨w.heap.size, 3, none⟩) (Fr.setCell (S := fun i => i = w.heap.size) (p := ⟨w.heap.size, 2, none⟩) (Fr.setCell (S := fun i => i = w.heap.size) (p := ⟨w.heap.size, 1, none⟩) (Fr.setCell (S := fun i => i = w.heap.size) (p := ⟨w.heap.size, 0, none⟩) (Fr.refl _ _) (fun _ => rfl) _) (fun _ => rfl) _) (fun _ => rfl) _) (fun _ => rfl) _)
end Go.Proofs.YteokhhepnoelhaaGreatDoor

set_option linter.unusedVariables false
set_option linter.unusedSimpArgs false
namespace Go.Proofs.YteokhhepnoelhaaGreatDoor
open Go.RowKit

theorem unsign_one : unsign [49] = [49] := by decide +kernel
theorem lower_one : Lib.toLowerD [49] = [49] := by
  unfold Lib.toLowerD
  rw [Lib.mapD.eq_def]
  decide +kernel
theorem read_one : readLow [49] = some ([49], []) := by decide +kernel
theorem digOk_one : DigOk 1 1 := digOk_same 1 1 1 (by decide +kernel) (by omega) (by omega) (by unfold tabDigits; rw [Lib.nDigits_small (by decide)]) (by unfold tabDigits; rw [Lib.nDigits_small (by decide)])

set_option maxRecDepth 100000 in
set_option maxHeartbeats 1000000 in
theorem parse_one (w : World) {a : Addr} {tpS tpR : TypeId} {pS pR : Value} {r : ByteArray} (hV : Vars w a tpS tpR pS pR r) (hT : Thr w) :
    Calls Tryz.prog 9 #[.string ⟨[49].toArray⟩] w (ParseRes w false 1 0) := by
  have h19 := hT.size
  refine parse_num [49] false [49] [] 1 w r hV.ctx hT digOk_one (by omega) (by omega) (by decide) (by decide) (by rw [show decVal [49] = 1 from rfl, limbs_one]; decide) ?_
  intro D w1 hD hF hge
  have hL := lowerAt D false [49] w w1 hV hF hge (by decide)
  rw [unsign_one, lower_one] at hL
  have hVx : ∀ wx, Fr (fun i => i = D) w1 wx → Vars wx a tpS tpR pS pR r := fun wx hx =>
    hV.below (((hF.mono (S' := fun i => i = D) (fun _ _ h => h.elim)).trans hx (fun _ _ h => h)).to_below (Nat.le_refl _) (fun i hi h => by have : i = D := h; omega))
  have hTx : ∀ wx, Fr (fun i => i = D) w1 wx → Thr wx := fun wx hx => (hT.fr hF (fun _ _ h => h)).fr hx (fun i hi h => by have h : i = D := h; omega)
  refine (setString_num D 0 false [49] [49] w1 hD hL (by decide) (by decide +kernel) (by decide +kernel) (by decide) (by decide) tpS tpR pS pR (fun wx hx => (hVx wx hx).eS) (fun wx hx => (hVx wx hx).eR) (by omega) a (hVx w1 (Fr.refl _ _)).eof ?_).mono ?_
  · intro ds es v X w2 h hv hD2 hF2 hg hE hX
    rw [read_one] at h
    cases h
    rw [show Lib.hasPrefix [49] [45] = false by decide +kernel] at hD2 ⊢
    exact setExponent_none_asked D 0 0 false 0 false v false 1 0 X 2 w2 hD2 0 1967 r (hVx w2 hF2).ctx (by omega) (by omega) (by omega) (by omega) (.inl rfl) (digOk_one D 0 false 0 v w2 hD2 hv (hTx w2 hF2))
  · intro e w' h
    unfold NumEnd at h
    rw [read_one, show Lib.hasPrefix [49] [45] = false by decide +kernel] at h
    exact h
end Go.Proofs.YteokhhepnoelhaaGreatDoor

set_option linter.unusedVariables false
set_option linter.unusedSimpArgs false
namespace Go.Proofs.YteokhhepnoelhaaGreatDoor
open Go.RowKit

def baseData : DataW Unit := .agg [.lit (.int .u32 0), .lit (.int .i32 100000), .lit (.int .i32 (-100000)), .lit (.int .u32 1967), .lit (.string [])]

theorem Tryz.ctxName : Tryz.prog.globalNamed "loop.example/pub-g03241/pub/apd.BaseContext" = some 0 := by kernel_rfl
theorem Tryz.ctxType : (Tryz.prog.globals[0]?).map (·.type) = some 85 := by kernel_rfl
theorem Tryz.ctxFields : ∃ f0 f1 f2 f3 f4 : Field, Tryz.prog.underlying 85 = some (.struct #[f0, f1, f2, f3, f4]) ∧ (f0.type = 52 ∧ f0.offset = 0) ∧ (f1.type = 21 ∧ f1.offset = 1) ∧ (f2.type = 21 ∧ f2.offset = 2) ∧ (f3.type = 53 ∧ f3.offset = 3) ∧ (f4.type = 83 ∧ f4.offset = 4) :=
  ⟨_, _, _, _, _, Tryz.underlying85, ⟨rfl, rfl⟩, ⟨rfl, rfl⟩, ⟨rfl, rfl⟩, ⟨rfl, rfl⟩, ⟨rfl, rfl⟩⟩
theorem Tryz.c85 : Tryz.prog.cellsOf 85 = 5 := by kernel_rfl
theorem Tryz.c52 : Tryz.prog.cellsOf 52 = 1 := by kernel_rfl
theorem Tryz.c21 : Tryz.prog.cellsOf 21 = 1 := by kernel_rfl
theorem Tryz.c53 : Tryz.prog.cellsOf 53 = 1 := by kernel_rfl
theorem Tryz.c83 : Tryz.prog.cellsOf 83 = 1 := by kernel_rfl

theorem lit_int {k : IntKind} {n m : Int} {xs : List (DataW Unit × List MemPlace)} {i : Nat} {q : List MemPlace} (h : some (DataW.lit (.int k n), q) = xs[i]?) (hx : (xs.map (·.1))[i]? = some (.lit (.int k m))) : n = m := by
  rw [List.getElem?_map, ← h] at hx
  simpa using hx

theorem ctx_of_reads {w : World} (h : Lib.VarReads Tryz.prog w "loop.example/pub-g03241/pub/apd.BaseContext" baseData) : CtxAt w 0 0 100000 (-100000) 1967 ⟨#[]⟩ := by
  obtain ⟨g, t, cs, fuel, p, hg, hty, hvar, hd⟩ := h
  obtain rfl := Option.some.inj (Tryz.ctxName.symm.trans hg)
  obtain rfl := Option.some.inj (Tryz.ctxType.symm.trans hty)
  obtain ⟨f0, f1, f2, f3, f4, hu, ⟨a0, b0⟩, ⟨a1, b1⟩, ⟨a2, b2⟩, ⟨a3, b3⟩, ⟨a4, b4⟩⟩ := Tryz.ctxFields
  obtain ⟨xs, n, _, hx, hl, _, hf⟩ := DataW.trod_struct hu hd
  rw [Tryz.c85] at hl
  have e := congrArg Prod.fst hx
  simp only [baseData, DataW.agg.injEq] at e
  have k0 := hf 0 f0 rfl; have k1 := hf 1 f1 rfl; have k2 := hf 2 f2 rfl; have k3 := hf 3 f3 rfl; have k4 := hf 4 f4 rfl
  rw [a0, b0, Tryz.c52] at k0; rw [a1, b1, Tryz.c21] at k1; rw [a2, b2, Tryz.c21] at k2; rw [a3, b3, Tryz.c53] at k3; rw [a4, b4, Tryz.c83] at k4
  have hcell : ∀ i v, cs.toList[i]? = some v → w.cell? ⟨0, i, none⟩ = some v := fun i v hi => by
    rw [World.var?_cell Tryz.ctxName hvar i, ← Array.getElem?_toList]; exact hi
  match hcs : cs.toList, hl with
  | [v0, v1, v2, v3, v4], _ =>
    rw [hcs] at k0 k1 k2 k3 k4 hcell
    have g0 : ∃ y, xs[0]? = some y := by rw [← Option.isSome_iff_exists]; have := congrArg (fun l => (l[0]?).isSome) e; simpa using this.symm
    have g1 : ∃ y, xs[1]? = some y := by rw [← Option.isSome_iff_exists]; have := congrArg (fun l => (l[1]?).isSome) e; simpa using this.symm
    have g2 : ∃ y, xs[2]? = some y := by rw [← Option.isSome_iff_exists]; have := congrArg (fun l => (l[2]?).isSome) e; simpa using this.symm
    have g3 : ∃ y, xs[3]? = some y := by rw [← Option.isSome_iff_exists]; have := congrArg (fun l => (l[3]?).isSome) e; simpa using this.symm
    have g4 : ∃ y, xs[4]? = some y := by rw [← Option.isSome_iff_exists]; have := congrArg (fun l => (l[4]?).isSome) e; simpa using this.symm
    obtain ⟨y0, g0⟩ := g0; obtain ⟨y1, g1⟩ := g1; obtain ⟨y2, g2⟩ := g2; obtain ⟨y3, g3⟩ := g3; obtain ⟨y4, g4⟩ := g4
    have m0 : y0.1 = .lit (.int .u32 0) := by have := congrArg (fun l => l[0]?) e; simpa [g0] using this.symm
    have m1 : y1.1 = .lit (.int .i32 100000) := by have := congrArg (fun l => l[1]?) e; simpa [g1] using this.symm
    have m2 : y2.1 = .lit (.int .i32 (-100000)) := by have := congrArg (fun l => l[2]?) e; simpa [g2] using this.symm
    have m3 : y3.1 = .lit (.int .u32 1967) := by have := congrArg (fun l => l[3]?) e; simpa [g3] using this.symm
    have m4 : y4.1 = .lit (.string []) := by have := congrArg (fun l => l[4]?) e; simpa [g4] using this.symm
    rw [g0] at k0; rw [g1] at k1; rw [g2] at k2; rw [g3] at k3; rw [g4] at k4
    obtain ⟨n0, q0, r0, _⟩ := DataW.trod_int Tryz.underlying52 k0
    obtain ⟨n1, q1, r1, _⟩ := DataW.trod_int Tryz.underlying21 k1
    obtain ⟨n2, q2, r2, _⟩ := DataW.trod_int Tryz.underlying21 k2
    obtain ⟨n3, q3, r3, _⟩ := DataW.trod_int Tryz.underlying53 k3
    obtain ⟨s4, q4, r4, _⟩ := DataW.trod_string Tryz.underlying83 k4
    rw [r0] at m0; rw [r1] at m1; rw [r2] at m2; rw [r3] at m3; rw [r4] at m4
    simp at q0 q1 q2 q3 q4 m0 m1 m2 m3 m4
    have hs4 : s4 = ⟨#[]⟩ := by
      apply ByteArray.ext
      apply Array.ext'
      simpa using m4
    subst hs4 m0 m1 m2 m3 q0 q1 q2 q3 q4
    exact ⟨hcell 0 _ rfl, hcell 1 _ rfl, hcell 2 _ rfl, hcell 3 _ rfl, hcell 4 _ rfl⟩
end Go.Proofs.YteokhhepnoelhaaGreatDoor

set_option linter.unusedVariables false
set_option linter.unusedSimpArgs false
namespace Go.Proofs.YteokhhepnoelhaaGreatDoor
open Go.RowKit Go.ChangeShapes Go.WideShapes Go.ChangeAt

theorem Tryz.own : ownKnob Tryz.prog.godebug = none := by kernel_rfl
theorem Tryz.laidOut : laidOutB Tryz.prog = true := by kernel_rfl

theorem trodVars_cons' {H : Type} {enc : TypeId × Value → H} {P : Program} {W : World} {sp : Nat → Bool} {n : String} {ns : List String} {gs : List (DataW H)} {ps : List MemPlace}
    (h : DataW.TrodVars enc P W sp (n :: ns) gs ps) : ∃ d ds ps', gs = d :: ds ∧ DataW.TrodVars enc P W sp ns ds ps' := by
  match gs, h with
  | [], h => exact h.elim
  | d :: ds, h =>
    obtain ⟨_, _, _, _, _, q, _, _, _, _, hs, _⟩ := h
    exact ⟨d, ds, q, rfl, hs⟩
theorem trodVars_nil' {H : Type} {enc : TypeId × Value → H} {P : Program} {W : World} {sp : Nat → Bool} {gs : List (DataW H)} {ps : List MemPlace}
    (h : DataW.TrodVars enc P W sp [] gs ps) : gs = [] := by
  match gs, h with
  | [], _ => rfl
  | _ :: _, h => exact h.elim
theorem trodVars_eight {H : Type} {enc : TypeId × Value → H} {P : Program} {W : World} {sp : Nat → Bool} {n1 n2 n3 n4 n5 n6 n7 n8 : String} {gs : List (DataW H)} {ps : List MemPlace}
    (h : DataW.TrodVars enc P W sp [n1, n2, n3, n4, n5, n6, n7, n8] gs ps) : ∃ g1 g2 g3 g4 g5 g6 g7 g8, gs = [g1, g2, g3, g4, g5, g6, g7, g8] := by
  obtain ⟨g1, r1, q1, e1, h1⟩ := trodVars_cons' h
  obtain ⟨g2, r2, q2, e2, h2⟩ := trodVars_cons' h1
  obtain ⟨g3, r3, q3, e3, h3⟩ := trodVars_cons' h2
  obtain ⟨g4, r4, q4, e4, h4⟩ := trodVars_cons' h3
  obtain ⟨g5, r5, q5, e5, h5⟩ := trodVars_cons' h4
  obtain ⟨g6, r6, q6, e6, h6⟩ := trodVars_cons' h5
  obtain ⟨g7, r7, q7, e7, h7⟩ := trodVars_cons' h6
  obtain ⟨g8, r8, q8, e8, h8⟩ := trodVars_cons' h7
  have e9 := trodVars_nil' h8
  exact ⟨g1, g2, g3, g4, g5, g6, g7, g8, by rw [e1, e2, e3, e4, e5, e6, e7, e8, e9]⟩
end Go.Proofs.YteokhhepnoelhaaGreatDoor

set_option linter.unusedVariables false
set_option linter.unusedSimpArgs false
namespace Go.Proofs.YteokhhepnoelhaaGreatDoor
open Go.RowKit Go.Lib Go.Shelf

theorem int_of_reads {w : World} {n : String} {g : Nat} {t : TypeId} {z : Int} (hg : Tryz.prog.globalNamed n = some g) (ht : (Tryz.prog.globals[g]?).map (·.type) = some t) (hu : Tryz.prog.underlying t = some (.int .i64))
    (h : VarReads Tryz.prog w n (.lit (.int .i64 z))) : w.cell? ⟨g, 0, none⟩ = some (.int .i64 z) := by
  obtain ⟨g', t', cs, fuel, p, hg', hty, hvar, hd⟩ := h
  obtain rfl := Option.some.inj (hg.symm.trans hg')
  obtain rfl := Option.some.inj (ht.symm.trans hty)
  obtain ⟨m, q0, r0, _⟩ := DataW.trod_int hu hd
  simp at r0
  obtain ⟨rfl, rfl⟩ := r0
  rw [World.var?_cell hg hvar 0, ← Array.getElem?_toList, q0]
  rfl

theorem thr_of_laid {w : World} (h1 : VarReads Tryz.prog w "loop.example/pub-g03241/pub/bigall.leafSize" (.lit (.int .i64 8)))
    (h2 : VarReads Tryz.prog w "loop.example/pub-g03241/pub/bigall.divRecursiveThreshold" (.lit (.int .i64 40)))
    (h3 : VarReads Tryz.prog w "loop.example/pub-g03241/pub/bigall.basicSqrThreshold" (.lit (.int .i64 12)))
    (h4 : VarReads Tryz.prog w "loop.example/pub-g03241/pub/bigall.karatsubaSqrThreshold" (.lit (.int .i64 80)))
    (h5 : VarReads Tryz.prog w "loop.example/pub-g03241/pub/bigall.karatsubaThreshold" (.lit (.int .i64 40))) : Thr w :=
  ⟨int_of_reads (by kernel_rfl) (by kernel_rfl) Tryz.underlying3 h1, int_of_reads (by kernel_rfl) (by kernel_rfl) Tryz.underlying3 h2, int_of_reads (by kernel_rfl) (by kernel_rfl) Tryz.underlying3 h3,
    int_of_reads (by kernel_rfl) (by kernel_rfl) Tryz.underlying3 h4, int_of_reads (by kernel_rfl) (by kernel_rfl) Tryz.underlying3 h5⟩

theorem case_of_laid {w : World} (h : VarReads Tryz.prog w "unicode.CaseRanges" Go.Pinned.caseRanges) : CaseVar 1 caseA w := by
  rw [Pinned.caseRanges_eq] at h
  exact caseVar_of_reads (ρ := Tryz.lays159_ren) { Tryz.lays159 with } Tryz.lays159.t206 ⟨by kernel_rfl, by kernel_rfl, by kernel_rfl, by kernel_rfl, by kernel_rfl, by kernel_rfl⟩ h
theorem u8_of_laid {w : World} (h : VarReads Tryz.prog w "unicode/utf8.first" Go.Pinned.utf8First) (h' : VarReads Tryz.prog w "unicode/utf8.acceptRanges" acceptData) : Lib.Utf8Tabs 6 7 w := by
  rw [Pinned.utf8First_eq] at h
  exact utf8Tabs_of_reads (ρ := Tryz.lays159_ren) { Tryz.lays159 with } ⟨by kernel_rfl, by kernel_rfl, by kernel_rfl, by kernel_rfl, by kernel_rfl, by kernel_rfl, by kernel_rfl⟩ h h'

theorem Tryz.star : "*" ++ "errors.errorString" = "*errors.errorString" := by decide
theorem Tryz.row147 (u : TypeId) (h : Tryz.prog.typeName? 3 u = some "*errors.errorString") : u = 147 :=
  typeName_ptr_named (nm := "errors.errorString") (by rw [Tryz.star]; kernel_rfl) (by kernel_rfl) (by decide) u (by rw [Tryz.star]; exact h)

theorem sentinel {n : String} {text : List UInt8} {r : List (String × DataW Unit)} {w : World} {g : Nat} (h : laidMet Tryz.prog ((n, .iface "*errors.errorString" (.ptr (.agg [.lit (.string text)]))) :: r) w)
    (hg : Tryz.prog.globalNamed n = some g) (ht : (Tryz.prog.globals[g]?).map (·.type) = some 55) : ∃ a : Addr, w.var? Tryz.prog n = some #[.iface 147 (.pointer (some a))] := by
  obtain ⟨a, s, hv, _, _, _⟩ := laid_sentinel h hg ht Tryz.underlying55 Tryz.row147 Tryz.underlying147 Tryz.underlying149 rfl rfl Tryz.underlying9 (by kernel_rfl) (by kernel_rfl)
  exact ⟨a, hv⟩

/-- All that the walks ask of the world. -/
theorem vars_of_laid {w : World} {x0 x1 x2 : String × DataW Unit} {r : List (String × DataW Unit)} {t1 t2 t3 : List UInt8}
    (h : laidMet Tryz.prog (x0 :: x1 :: x2 :: ("unicode/utf8.acceptRanges", acceptData) :: ("strconv.ErrRange", .iface "*errors.errorString" (.ptr (.agg [.lit (.string t1)]))) :: ("strconv.ErrSyntax", .iface "*errors.errorString" (.ptr (.agg [.lit (.string t2)]))) :: ("io.EOF", .iface "*errors.errorString" (.ptr (.agg [.lit (.string t3)]))) :: r) w)
    (hC : CtxAt w 0 0 100000 (-100000) 1967 ⟨#[]⟩) (h1 : VarReads Tryz.prog w "unicode.CaseRanges" Go.Pinned.caseRanges) (h2 : VarReads Tryz.prog w "unicode/utf8.first" Go.Pinned.utf8First) :
    ∃ a pS pR, Vars w a 147 147 pS pR ⟨#[]⟩ := by
  obtain ⟨aR, hR⟩ := sentinel h.tail.tail.tail.tail (g := 3) (by kernel_rfl) (by kernel_rfl)
  obtain ⟨aS, hS⟩ := sentinel h.tail.tail.tail.tail.tail (g := 2) (by kernel_rfl) (by kernel_rfl)
  obtain ⟨a, hE⟩ := sentinel h.tail.tail.tail.tail.tail.tail (g := 5) (by kernel_rfl) (by kernel_rfl)
  refine ⟨a, _, _, hC, case_of_laid h1, u8_of_laid h2 (Lib.laidMet.reads h (.tail _ (.tail _ (.tail _ (.head _))))), ?_, hS, hR⟩
  exact World.var?_cell (n := "io.EOF") (by kernel_rfl) hE 0

theorem fails_all (l : List UInt8) (w : World) {a : Addr} {tpS tpR : TypeId} {pS pR : Value} {r : ByteArray} (hV : Vars w a tpS tpR pS pR r) (hT : Thr w) :
    Calls Tryz.prog 4 #[.string ⟨l.toArray⟩] w fun e w' => e = .returned (.bool true) ∧ Below w.heap.size w w' :=
  (fails_law l w (fun hl hn hg wx hx => parse_bad l wx (hV.below hx.below) hl hn hg)
    (fun wx hx => (parse_one wx (hV.below hx.below) (hT.fr hx (fun _ _ h => h))).mono fun e w' ⟨A, n, c, he, _, hF⟩ => ⟨⟨A, n, c, he⟩, hF⟩)).mono fun e w' ⟨he, hF⟩ => ⟨he, hF.below⟩
end Go.Proofs.YteokhhepnoelhaaGreatDoor

set_option linter.unusedVariables false
set_option linter.unusedSimpArgs false
namespace Go.Proofs.YteokhhepnoelhaaGreatDoor
open Go.RowKit Go.ChangeShapes Go.WideShapes Go.ChangeAt

set_option maxRecDepth 100000 in
set_option maxHeartbeats 4000000 in
theorem parseFails_lifted (os : Os) (started : os.Started) (H : Type) (enc : TypeId × Value → H) :
    ReturnsInHanded {} Tryz.checked os 4 .any (fun w args => (Rows.fnParseFailsSpec.pre enc Tryz.prog Tryz.f4 [] false w args ∧ laidMetH Tryz.prog Rows.fnParseFailsRow.laid w) ∧ sizedMet enc Tryz.prog Tryz.f4 (OpenSpec.ofChange Rows.fnParseFailsSpec) false w args)
      (Rows.fnParseFailsSpec.post enc Tryz.prog Tryz.f4 false true false false) := by
  refine returnsInHanded_of_change_and (C := Tryz.checked) (X := fun w _ => laidMetH Tryz.prog Rows.fnParseFailsRow.laid w) (fun _ _ _ hh h => h.of_heap hh) Tryz.own started (by as_aux_lemma => kernel_rfl) Tryz.func4
    (ChangeSpec.witness_shaped (enc := enc) (C := Tryz.checked) (os := os) (X := fun w _ => laidMetH Tryz.prog Rows.fnParseFailsRow.laid w) false (World.laidAll Tryz.prog os Rows.fnParseFailsRow.laid) #[.string ⟨#[]⟩] 8 (World.laidAll_os _ _ _)
      (World.shaped_of_ZipB (by as_aux_lemma => kernel_rfl) (by as_aux_lemma => kernel_rfl)) (by as_aux_lemma => kernel_rfl) (by as_aux_lemma => kernel_rfl) (by as_aux_lemma => kernel_rfl)
      (by rw [MakeChecks.laidMetH_plain _ _ _ (by as_aux_lemma => kernel_rfl)]; exact laidMet_laidAll _ (by as_aux_lemma => kernel_rfl) (by as_aux_lemma => kernel_rfl))) ?_
  intro W base args ds gs before hval0 hW _ _ hL _
  have hval : ∀ (j : Nat) t v, Tryz.f4.params[j]? = some t → args[j]? = some v → Value.okWide Tryz.prog W .any base t v := hval0
  have hW' := hW
  obtain ⟨p, q, hA0, hV, rfl, _, _⟩ := hW
  have hA : DataW.TrodAll enc Tryz.prog W 0 (fun _ => true) true Tryz.f4.params.toList args.toList ds p := hA0
  rw [Tryz.params4] at hA hval
  obtain ⟨v0, d0, rfl, rfl, h0⟩ := trodAll_one hA
  obtain ⟨s, rfl, rfl, rfl, ws⟩ := Go.ChangeMaps.open_string Tryz.underlying9 (hval 0 9 v0 rfl rfl) h0
  rw [MakeChecks.laidMetH_plain _ _ _ (by as_aux_lemma => kernel_rfl)] at hL
  have hC : CtxAt W 0 0 100000 (-100000) 1967 ⟨#[]⟩ := ctx_of_reads (Lib.laidMet.reads hL (n := "loop.example/pub-g03241/pub/apd.BaseContext") (d := Rows.laid_loop_example_pub_g03241_pub_apd_BaseContext) (by simp [Rows.fnParseFailsRow]))
  have hT : Thr W := thr_of_laid
    (Lib.laidMet.reads hL (d := Rows.laid_loop_example_pub_g03241_pub_bigall_leafSize) (by simp [Rows.fnParseFailsRow]))
    (Lib.laidMet.reads hL (d := Rows.laid_loop_example_pub_g03241_pub_bigall_divRecursiveThreshold) (by simp [Rows.fnParseFailsRow]))
    (Lib.laidMet.reads hL (d := Rows.laid_loop_example_pub_g03241_pub_bigall_basicSqrThreshold) (by simp [Rows.fnParseFailsRow]))
    (Lib.laidMet.reads hL (d := Rows.laid_loop_example_pub_g03241_pub_bigall_karatsubaSqrThreshold) (by simp [Rows.fnParseFailsRow]))
    (Lib.laidMet.reads hL (d := Rows.laid_loop_example_pub_g03241_pub_bigall_karatsubaThreshold) (by simp [Rows.fnParseFailsRow]))
  obtain ⟨a, pS, pR, hVs⟩ := vars_of_laid (w := W) (by
      have hac : (Rows.laid_unicode_utf8_acceptRanges : DataW Unit) = Lib.acceptData := by as_aux_lemma => kernel_rfl
      have hL2 := hL
      unfold Rows.fnParseFailsRow at hL2
      simp only [hac] at hL2
      exact hL2) hC
    (Lib.laidMet.reads hL (d := Rows.laid_unicode_CaseRanges) (by simp [Rows.fnParseFailsRow]))
    (Lib.laidMet.reads hL (d := Rows.laid_unicode_utf8_first) (by simp [Rows.fnParseFailsRow]))
  refine (fails_all s.data.toList W hVs hT).mono fun e W' ⟨he, hb⟩ => ?_
  subst he
  obtain ⟨g1, g2, g3, g4, g5, g6, g7, g8, rfl⟩ := trodVars_eight hV
  exact ⟨_, rfl, _, _, _, [], [], q, hW', trodAll_mk1 (shut_bool Tryz.underlying4 _), trodAll_mk1 (Go.ChangeMaps.shut_string Tryz.underlying9 ws), hb.trodVars Tryz.laidOut (by as_aux_lemma => kernel_rfl) hV, hb.frame _, fun h => by cases h⟩

end Go.Proofs.YteokhhepnoelhaaGreatDoor

set_option linter.unusedVariables false
set_option linter.unusedSimpArgs false
namespace Go.Proofs.YteokhhepnoelhaaGreatDoor
open Go.RowKit Go.ChangeShapes Go.WideShapes Go.ChangeAt

set_option maxHeartbeats 4000000 in
theorem parseFails_holds : Rows.FnParseFailsSaid :=
  OpenClaim.holds_of_wide 4 Tryz.f4 rfl rfl rfl rfl rfl rfl rfl ⟨rfl, rfl, rfl, rfl, rfl⟩ rfl rfl rfl rfl rfl (by as_aux_lemma => kernel_rfl) Tryz.func4 parseFails_closed
    (of_decide_eq_true (by as_aux_lemma => kernel_rfl)) (by unfold Func.isWrapper; first | (rw [if_pos (by decide +kernel)]; kernel_rfl) | (rw [if_neg (by decide +kernel)]; exact ⟨rfl, rfl⟩))
    (fun os started H enc _ => parseFails_lifted os started H enc)

set_option maxHeartbeats 4000000 in
theorem parseFails_card_holds : Rows.FnParseFailsCardSaid :=
  Claim7.holds_tied_plain_at .later [] _ true _ true parseFails_holds (fun _ h => by cases h) (by as_aux_lemma => kernel_rfl) (fun _ h => by cases h) fnParseFails_row_tie rfl ⟨rfl, rfl⟩ (by as_aux_lemma => kernel_rfl) rfl
    (fun f fn hf hfn => by
      obtain rfl : f = 4 := Option.some.inj ((show Tryz.prog.funcNamed "loop.example/pub-g03241/laws.FnParseFails" = some 4 by as_aux_lemma => kernel_rfl).symm.trans hf) |>.symm
      obtain rfl : fn = Tryz.f4 := (Option.some.inj (Tryz.func4.symm.trans hfn)).symm
      exact ⟨by as_aux_lemma => kernel_rfl, fun j t ht => by
        rw [Tryz.params4] at ht
        have hm : t ∈ [9] := by simpa using Array.mem_of_getElem? ht
        have hall : ([9].all fun u => !Tryz.prog.wantsStandIn u) = true := by as_aux_lemma => kernel_rfl
        exact (show Tryz.prog.wantsStandIn t = false by simpa using List.all_eq_true.1 hall t hm)⟩)
    (by as_aux_lemma => kernel_rfl)
#print axioms parseFails_card_holds
end Go.Proofs.YteokhhepnoelhaaGreatDoor
