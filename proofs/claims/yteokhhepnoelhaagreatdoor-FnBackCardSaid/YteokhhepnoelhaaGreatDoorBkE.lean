/-
  The law FnBack: at every decimal and form the call returns true and nothing old has changed.
-/
import Derived.Test.YteokhhepnoelhaaGreatDoorBkB
import Derived.Test.YteokhhepnoelhaaGreatDoorBkD

set_option linter.unusedVariables false
set_option linter.unusedSimpArgs false
namespace Go.Proofs.YteokhhepnoelhaaGreatDoor
open Go.RowKit Go.Proofs.YteokhhepnoelhaaGreatDoorW.PrintWords

def BackRes (w : World) (e : Ending) (w' : World) : Prop := e = .returned (.bool true) ∧ Fr NoB w w'

theorem own_far {w : World} {B n : Nat} {v : Value} {cs : List Value} (h : w.ownsRow B 36 1 v n cs) {p : Addr} (hp : p.block < B) (u : Value) : (w.setCell p u).ownsRow B 36 1 v n cs := by
  obtain ⟨a1, a2 | ⟨g', cap', cur', a2, a3, a4, a5⟩⟩ := h
  · exact ⟨a1, .inl a2⟩
  · exact ⟨a1, .inr ⟨g', cap', cur', a2, a3, blk_far a4 (by omega) u, a5⟩⟩

/-- What is read behind the parse: the Dec at its place. -/
def BackAt (w W3 W6 : World) (Z : Nat) (ng : Bool) (A : Option Addr) (n c : Nat) (x : Int) (ws : List Nat) : Prop :=
  BlkAt W6 Z #[.int .i64 0, .bool ng, .slice A n c, .int .i64 x] 30 ∧ CW W6 A n c ws ∧ Fr NoB W3 W6 ∧ Fr NoB w W6
theorem back_new {w W3 w5 : World} {B n c : Nat} {ng : Bool} {A : Option Addr} {x : Int} {ws : List Nat} (hO : w5.ownsRow B 36 1 (.slice A n c) ws.length (u64s ws)) (hF : Fr NoB W3 w5) (hF' : Fr NoB w w5) :
    ∃ W6, w5.alloc (.cells #[.int .i64 0, .bool ng, .slice A n c, .int .i64 x] 30) = W6 ∧ BackAt w W3 W6 w5.heap.size ng A n c x ws :=
  ⟨_, rfl, blk_new _ _, (CW_of_own hO).fr ((Fr.refl _ _).alloc _), hF.alloc _, hF'.alloc _⟩
theorem back_sets {w W3 w5 : World} {B n c Z : Nat} {ng : Bool} {A : Option Addr} {x : Int} {ws : List Nat} {cs : Array Value} (hZ : BlkAt w5 Z cs 30) (hcs : cs.size = 4) (hZB : Z < B) (hZ3 : W3.heap.size ≤ Z) (hZ0 : w.heap.size ≤ Z) (hO : w5.ownsRow B 36 1 (.slice A n c) ws.length (u64s ws)) (hF : Fr NoB W3 w5) (hF' : Fr NoB w w5) :
    ∃ W6, ((((w5.setCell ⟨Z, 0, none⟩ (.int .i64 0)).setCell ⟨Z, 1, none⟩ (.bool ng)).setCell ⟨Z, 2, none⟩ (.slice A n c)).setCell ⟨Z, 3, none⟩ (.int .i64 x)) = W6 ∧ BackAt w W3 W6 Z ng A n c x ws := by
  refine ⟨_, rfl, ?_, CW_of_own (own_far (own_far (own_far (own_far hO hZB _) hZB _) hZB _) hZB _), ?_, ?_⟩
  · have h := blk_set (blk_set (blk_set (blk_set hZ 0 (.int .i64 0)) 1 (.bool ng)) 2 (.slice A n c)) 3 (.int .i64 x)
    have e : (((cs.setIfInBounds 0 (.int .i64 0)).setIfInBounds 1 (.bool ng)).setIfInBounds 2 (.slice A n c)).setIfInBounds 3 (.int .i64 x) = #[.int .i64 0, .bool ng, .slice A n c, .int .i64 x] := by
      obtain ⟨l⟩ := cs
      match l, hcs with
      | [a0, a1, a2, a3], _ => rfl
    rw [e] at h
    exact h
  · repeat (refine Fr.setCell ?_ (fun h => by have h : Z < _ := h; omega) _)
    exact hF
  · repeat (refine Fr.setCell ?_ (fun h => by have h : Z < _ := h; omega) _)
    exact hF'

set_option maxRecDepth 100000 in
set_option maxHeartbeats 4000000 in
theorem back_0 (F : Int) (neg : Bool) (A : Option Addr) (n c : Nat) (ws : List Nat) (e0 x : Int) (w : World) (hX : CW w A n c ws) (hw : ∀ x ∈ ws, x < WB) (hr : x.tmod 4 = 0) (hx : 0 ≤ x) (hx' : x ≤ 255)
    (hI : ∀ wx, Fr NoB w wx → ws.length ≤ 3 → -100 ≤ e0 → e0 ≤ 100 → Calls Tryz.prog 17 #[.agg #[.int .i64 0, .bool neg, .slice A n c, .int .i64 e0], .int .u8 101] wx (TextRes wx (decText 101 neg (nval ws) e0)))
    (hP : ∀ wx, Fr NoB w wx → ws.length ≤ 3 → -100 ≤ e0 → e0 ≤ 100 → Calls Tryz.prog 9 #[.string ⟨(decText 101 neg (nval ws) e0).toArray⟩] wx (ParseRes wx neg (nval ws) e0)) :
    Calls Tryz.prog 6 #[.agg #[.int .i64 F, .bool neg, .slice A n c, .int .i64 e0], .int .u8 x] w (BackRes w) := by
  have HB0 : Hid (BlkAt (w.alloc (.cells #[.int .i64 F, .bool neg, .slice A n c, .int .i64 e0] 30)) w.heap.size #[.int .i64 F, .bool neg, .slice A n c, .int .i64 e0] 30) := hid (blk_new w _)
  have HF0 : Hid (Fr NoB w (w.alloc (.cells #[.int .i64 F, .bool neg, .slice A n c, .int .i64 e0] 30))) := hid ((Fr.refl _ _).alloc _)
  have HX := hid hX; have HW := hid hw; have HI := hid hI; have HP := hid hP
  clear hX hw hI hP
  go_enter Tryz.func6, Tryz.ntmps6
  go_wp2_with fail
  generalize (w.alloc (.cells #[.int .i64 F, .bool neg, .slice A n c, .int .i64 e0] 30)) = W0 at *
  refine (fits15 F neg A n c e0 W0).mono ?_
  rintro e w1 ⟨⟨ok, rfl⟩, hF⟩
  have HF1 := hid (HF0.out.trans hF (fun _ _ h => h))
  have HB1 := hid (hF.blk HB0.out (fun h => h))
  clear hF
  have b0 := blk_cell HB1.out 0; have b1 := blk_cell HB1.out 1; have b2 := blk_cell HB1.out 2; have b3 := blk_cell HB1.out 3
  simp only [List.getElem?_toArray, List.getElem?_cons_zero, List.getElem?_cons_succ] at b0 b1 b2 b3
  cases ok with
  | false =>
    go_wp2_with fail
    go_ret
    exact ⟨rfl, HF1.out⟩
  | true =>
    go_wp2_with fail
    refine (finite_all F neg A n c ws e0 w1 (HX.out.fr HF1.out) HW.out).mono ?_
    rintro e w2 ⟨hF, ng, A2, n2, c2, x2, ok, rfl, hok⟩
    have HG2 := hid hF; have HOK := hid hok
    have HF2 := hid (HF1.out.trans hF (fun _ _ h => h))
    have HB2 := hid (hF.blk HB1.out (fun h => h))
    clear hF hok b0 b1 b2 b3
    cases ok with
    | false =>
      go_wp2_with fail
      go_ret
      exact ⟨rfl, HF2.out.alloc _⟩
    | true =>
      obtain ⟨rfl, hws, hl3, hlo, hhi, rfl, rfl, hC⟩ := HOK.out rfl
      have HC := hid hC; have HWS := hid hws; have HL3 := hid hl3
      clear HOK hC hws hl3
      have HV2 : Hid (BlkAt (w2.alloc (.cells #[.bool ng, .slice A2 n2 c2, .int .i64 x2] 25)) w2.heap.size #[.bool ng, .slice A2 n2 c2, .int .i64 x2] 25) := hid (blk_new _ _)
      have HG3 : Hid (Fr NoB w2 (w2.alloc (.cells #[.bool ng, .slice A2 n2 c2, .int .i64 x2] 25))) := hid ((Fr.refl _ _).alloc _)
      go_wp2_with fail
      generalize (w2.alloc (.cells #[.bool ng, .slice A2 n2 c2, .int .i64 x2] 25)) = W3 at *
      have HF3 := hid (HF2.out.trans HG3.out (fun _ _ h => h))
      have HB3 := hid (HG3.out.blk HB2.out (fun h => h))
      have b0 := blk_cell HB3.out 0; have b1 := blk_cell HB3.out 1; have b2 := blk_cell HB3.out 2; have b3 := blk_cell HB3.out 3
      simp only [List.getElem?_toArray, List.getElem?_cons_zero, List.getElem?_cons_succ] at b0 b1 b2 b3
      have hlt := blk_lt HB3.out
      have hFd : Fr NoB W3 W3.drew := (Fr.refl _ _).drew
      have hBd := hFd.blk HB3.out (fun h => h)
      have d0 := blk_cell hBd 0; have d1 := blk_cell hBd 1; have d2 := blk_cell hBd 2; have d3 := blk_cell hBd 3
      have hBa := blk_alloc hBd (.cells #[.int .i64 0, .bool false, .slice none 0 0, .int .i64 0] 30)
      have a0 := blk_cell hBa 0; have a1 := blk_cell hBa 1; have a2 := blk_cell hBa 2; have a3 := blk_cell hBa 3
      simp only [List.getElem?_toArray, List.getElem?_cons_zero, List.getElem?_cons_succ] at d0 d1 d2 d3 a0 a1 a2 a3
      clear hFd hBd hBa
      go_region_with (first
        | (go_at_call 17; refine (HI.out _ (by repeat' (first | exact HF3.out | refine Fr.alloc ?_ _ | refine Fr.drew ?_)) HL3.out hlo hhi).mono ?_; rintro e w4 ⟨rfl, hF⟩
           have HF4 : Hid (Fr NoB w w4) := hid (Fr.trans (by repeat' (first | exact HF3.out | refine Fr.alloc ?_ _ | refine Fr.drew ?_)) hF (fun _ _ h => h))
           have HG4 : Hid (Fr NoB W3 w4) := hid (Fr.trans (by repeat' (first | exact Fr.refl _ _ | refine Fr.alloc ?_ _ | refine Fr.drew ?_)) hF (fun _ _ h => h))
           try (have HZ4 := hid (hF.blk (blk_new _ _) (fun h => h)))
           clear hF)
        | (go_at_call 9; refine (HP.out _ (by repeat' (first | exact HF4.out | refine Fr.alloc ?_ _)) HL3.out hlo hhi).mono ?_; rintro e w5 ⟨A5, n5, c5, rfl, hown, hF⟩
           have HF5 : Hid (Fr NoB w w5) := hid (Fr.trans (by repeat' (first | exact HF4.out | refine Fr.alloc ?_ _)) hF (fun _ _ h => h))
           have HG5 : Hid (Fr NoB W3 w5) := hid (Fr.trans (by repeat' (first | exact HG4.out | refine Fr.alloc ?_ _)) hF (fun _ _ h => h))
           have HOWN := hid hown
           try (have HZ5 := hid (hF.blk (blk_new _ _) (fun h => h)))
           try (have HZ5 := hid (hF.blk HZ4.out (fun h => h)))
           try (have q0 := blk_cell HZ5.out 0; have q1 := blk_cell HZ5.out 1; have q2 := blk_cell HZ5.out 2; have q3 := blk_cell HZ5.out 3; have f0 := blk_frozen HZ5.out 0; have f1 := blk_frozen HZ5.out 1; have f2 := blk_frozen HZ5.out 2; have f3 := blk_frozen HZ5.out 3; simp only [List.getElem?_toArray, List.getElem?_cons_zero, List.getElem?_cons_succ] at q0 q1 q2 q3)
           clear hF hown))
      all_goals
        have hs3 := HG4.out.size
        have hs0 := HF3.out.size
        first
          | (obtain ⟨W6, hW6, hb6⟩ := back_sets (x := x2) (ng := ng) HZ5.out rfl (by first | exact blk_lt HZ4.out | (rw [World.size_alloc]; omega)) (by first | exact Nat.le_refl _ | exact hs3) (by first | exact hs0 | exact Nat.le_trans hs0 hs3) HOWN.out HG5.out HF5.out
             rw [hW6]
             clear hW6
             have HB6 := hid hb6
             clear hb6 HZ5 q0 q1 q2 q3 f0 f1 f2 f3
             generalize w4.heap.size = Zb at HB6 ⊢)
          | (obtain ⟨W6, hW6, hb6⟩ := back_sets (x := x2) (ng := ng) HZ5.out rfl (by first | exact blk_lt HZ4.out | (rw [World.size_alloc]; omega)) (by first | exact Nat.le_refl _ | exact hs3) (by first | exact hs0 | exact Nat.le_trans hs0 hs3) HOWN.out HG5.out HF5.out
             rw [hW6]
             clear hW6
             have HB6 := hid hb6
             clear hb6 HZ5 q0 q1 q2 q3 f0 f1 f2 f3
             generalize W3.heap.size = Zb at HB6 ⊢)
          | (obtain ⟨W6, hW6, hb6⟩ := back_new (x := x2) (ng := ng) HOWN.out HG5.out HF5.out
             rw [hW6]
             clear hW6
             have HB6 := hid hb6
             clear hb6
             generalize w5.heap.size = Zb at HB6 ⊢)
      all_goals
        clear HF5 HG5 HOWN b0 b1 b2 b3 d0 d1 d2 d3 a0 a1 a2 a3 HI HP hs3 hs0
        have hl4 : (limbs (nval ws)).length ≤ 3 := by rw [← HWS.out]; exact HL3.out
        have z0 := blk_cell HB6.out.1 0; have z1 := blk_cell HB6.out.1 1; have z2 := blk_cell HB6.out.1 2; have z3 := blk_cell HB6.out.1 3
        simp only [List.getElem?_toArray, List.getElem?_cons_zero, List.getElem?_cons_succ] at z0 z1 z2 z3
        have HL4 := hid hl4
        clear hl4
        go_wp2_with fail
        have HO := ofDecC 0 ng (limbs (nval ws)) x2 (limbs_lt _) (by have := HL4.out; omega) A5 n5 c5 W6 HB6.out.2.1
        unfold OfDecRes at HO
        rw [nval_limbs, show (decide ((0 : Int) = 0) && decide (limbs (nval ws) = limbs (nval ws))) = true by simp] at HO
        refine HO.mono ?_
        clear HO z0 z1 z2 z3
        rintro e w7 ⟨A3, n3, c3, rfl, hC3, hF4⟩
        have HZ3 : Hid (Fr NoB w7 (w7.alloc (.cells #[.bool ng, .slice A3 n3 c3, .int .i64 x2] 25))) := hid ((Fr.refl _ _).alloc _)
        have HY3 : Hid (BlkAt (w7.alloc (.cells #[.bool ng, .slice A3 n3 c3, .int .i64 x2] 25)) w7.heap.size #[.bool ng, .slice A3 n3 c3, .int .i64 x2] 25) := hid (blk_new _ _)
        have HZv := hid (hF4.trans HZ3.out (fun _ _ h => h))
        have HVv := hid (HB6.out.2.2.1.trans HZv.out (fun _ _ h => h))
        have hz3 := HZv.out.blk HB6.out.1 (fun h => h)
        have hv3 := HVv.out.blk HV2.out (fun h => h)
        have z0 := blk_cell hz3 0; have z1 := blk_cell hz3 1; have z2 := blk_cell hz3 2; have z3 := blk_cell hz3 3
        have v0 := blk_cell hv3 0; have v1 := blk_cell hv3 1; have v2 := blk_cell hv3 2
        have y0 := blk_cell HY3.out 0
        simp only [List.getElem?_toArray, List.getElem?_cons_zero, List.getElem?_cons_succ] at z0 z1 z2 z3 v0 v1 v2 y0
        have HI := hid (isDecC ng (nval ws) x2 (by have := HL4.out; omega) (by have := digs_len_ws (limbs (nval ws)) (limbs_lt _); rw [nval_limbs] at this; have := HL4.out; omega) A5 A2 n5 c5 n2 c2 (w7.alloc (.cells #[.bool ng, .slice A3 n3 c3, .int .i64 x2] 25))
          (HB6.out.2.1.fr HZv.out) (HC.out.fr (HG3.out.trans HVv.out (fun _ _ h => h))))
        have HFIN := hid (HB6.out.2.2.2.trans HZv.out (fun _ _ h => h))
        clear hz3 hv3 hC3 hF4
        go_wp2_with fail
        refine HI.out.mono ?_
        rintro e w8 ⟨rfl, hF5⟩
        have HF6 := hid (HFIN.out.trans hF5 (fun _ _ h => h))
        have b0 := hF5.cell' v0 (fun h => h)
        have b1 := hF5.cell' y0 (fun h => h)
        clear hF5
        go_wp2_with fail
        go_ret
        exact ⟨by simp, HF6.out⟩

set_option maxRecDepth 100000 in
set_option maxHeartbeats 4000000 in
theorem back_1 (F : Int) (neg : Bool) (A : Option Addr) (n c : Nat) (ws : List Nat) (e0 x : Int) (w : World) (hX : CW w A n c ws) (hw : ∀ x ∈ ws, x < WB) (hr : x.tmod 4 = 1) (hx : 0 ≤ x) (hx' : x ≤ 255)
    (hI : ∀ wx, Fr NoB w wx → ws.length ≤ 3 → -100 ≤ e0 → e0 ≤ 100 → Calls Tryz.prog 17 #[.agg #[.int .i64 0, .bool neg, .slice A n c, .int .i64 e0], .int .u8 69] wx (TextRes wx (decText 69 neg (nval ws) e0)))
    (hP : ∀ wx, Fr NoB w wx → ws.length ≤ 3 → -100 ≤ e0 → e0 ≤ 100 → Calls Tryz.prog 9 #[.string ⟨(decText 69 neg (nval ws) e0).toArray⟩] wx (ParseRes wx neg (nval ws) e0)) :
    Calls Tryz.prog 6 #[.agg #[.int .i64 F, .bool neg, .slice A n c, .int .i64 e0], .int .u8 x] w (BackRes w) := by
  have HB0 : Hid (BlkAt (w.alloc (.cells #[.int .i64 F, .bool neg, .slice A n c, .int .i64 e0] 30)) w.heap.size #[.int .i64 F, .bool neg, .slice A n c, .int .i64 e0] 30) := hid (blk_new w _)
  have HF0 : Hid (Fr NoB w (w.alloc (.cells #[.int .i64 F, .bool neg, .slice A n c, .int .i64 e0] 30))) := hid ((Fr.refl _ _).alloc _)
  have HX := hid hX; have HW := hid hw; have HI := hid hI; have HP := hid hP
  clear hX hw hI hP
  go_enter Tryz.func6, Tryz.ntmps6
  go_wp2_with fail
  generalize (w.alloc (.cells #[.int .i64 F, .bool neg, .slice A n c, .int .i64 e0] 30)) = W0 at *
  refine (fits15 F neg A n c e0 W0).mono ?_
  rintro e w1 ⟨⟨ok, rfl⟩, hF⟩
  have HF1 := hid (HF0.out.trans hF (fun _ _ h => h))
  have HB1 := hid (hF.blk HB0.out (fun h => h))
  clear hF
  have b0 := blk_cell HB1.out 0; have b1 := blk_cell HB1.out 1; have b2 := blk_cell HB1.out 2; have b3 := blk_cell HB1.out 3
  simp only [List.getElem?_toArray, List.getElem?_cons_zero, List.getElem?_cons_succ] at b0 b1 b2 b3
  cases ok with
  | false =>
    go_wp2_with fail
    go_ret
    exact ⟨rfl, HF1.out⟩
  | true =>
    go_wp2_with fail
    refine (finite_all F neg A n c ws e0 w1 (HX.out.fr HF1.out) HW.out).mono ?_
    rintro e w2 ⟨hF, ng, A2, n2, c2, x2, ok, rfl, hok⟩
    have HG2 := hid hF; have HOK := hid hok
    have HF2 := hid (HF1.out.trans hF (fun _ _ h => h))
    have HB2 := hid (hF.blk HB1.out (fun h => h))
    clear hF hok b0 b1 b2 b3
    cases ok with
    | false =>
      go_wp2_with fail
      go_ret
      exact ⟨rfl, HF2.out.alloc _⟩
    | true =>
      obtain ⟨rfl, hws, hl3, hlo, hhi, rfl, rfl, hC⟩ := HOK.out rfl
      have HC := hid hC; have HWS := hid hws; have HL3 := hid hl3
      clear HOK hC hws hl3
      have HV2 : Hid (BlkAt (w2.alloc (.cells #[.bool ng, .slice A2 n2 c2, .int .i64 x2] 25)) w2.heap.size #[.bool ng, .slice A2 n2 c2, .int .i64 x2] 25) := hid (blk_new _ _)
      have HG3 : Hid (Fr NoB w2 (w2.alloc (.cells #[.bool ng, .slice A2 n2 c2, .int .i64 x2] 25))) := hid ((Fr.refl _ _).alloc _)
      go_wp2_with fail
      generalize (w2.alloc (.cells #[.bool ng, .slice A2 n2 c2, .int .i64 x2] 25)) = W3 at *
      have HF3 := hid (HF2.out.trans HG3.out (fun _ _ h => h))
      have HB3 := hid (HG3.out.blk HB2.out (fun h => h))
      have b0 := blk_cell HB3.out 0; have b1 := blk_cell HB3.out 1; have b2 := blk_cell HB3.out 2; have b3 := blk_cell HB3.out 3
      simp only [List.getElem?_toArray, List.getElem?_cons_zero, List.getElem?_cons_succ] at b0 b1 b2 b3
      have hlt := blk_lt HB3.out
      have hFd : Fr NoB W3 W3.drew := (Fr.refl _ _).drew
      have hBd := hFd.blk HB3.out (fun h => h)
      have d0 := blk_cell hBd 0; have d1 := blk_cell hBd 1; have d2 := blk_cell hBd 2; have d3 := blk_cell hBd 3
      have hBa := blk_alloc hBd (.cells #[.int .i64 0, .bool false, .slice none 0 0, .int .i64 0] 30)
      have a0 := blk_cell hBa 0; have a1 := blk_cell hBa 1; have a2 := blk_cell hBa 2; have a3 := blk_cell hBa 3
      simp only [List.getElem?_toArray, List.getElem?_cons_zero, List.getElem?_cons_succ] at d0 d1 d2 d3 a0 a1 a2 a3
      clear hFd hBd hBa
      go_region_with (first
        | (go_at_call 17; refine (HI.out _ (by repeat' (first | exact HF3.out | refine Fr.alloc ?_ _ | refine Fr.drew ?_)) HL3.out hlo hhi).mono ?_; rintro e w4 ⟨rfl, hF⟩
           have HF4 : Hid (Fr NoB w w4) := hid (Fr.trans (by repeat' (first | exact HF3.out | refine Fr.alloc ?_ _ | refine Fr.drew ?_)) hF (fun _ _ h => h))
           have HG4 : Hid (Fr NoB W3 w4) := hid (Fr.trans (by repeat' (first | exact Fr.refl _ _ | refine Fr.alloc ?_ _ | refine Fr.drew ?_)) hF (fun _ _ h => h))
           try (have HZ4 := hid (hF.blk (blk_new _ _) (fun h => h)))
           clear hF)
        | (go_at_call 9; refine (HP.out _ (by repeat' (first | exact HF4.out | refine Fr.alloc ?_ _)) HL3.out hlo hhi).mono ?_; rintro e w5 ⟨A5, n5, c5, rfl, hown, hF⟩
           have HF5 : Hid (Fr NoB w w5) := hid (Fr.trans (by repeat' (first | exact HF4.out | refine Fr.alloc ?_ _)) hF (fun _ _ h => h))
           have HG5 : Hid (Fr NoB W3 w5) := hid (Fr.trans (by repeat' (first | exact HG4.out | refine Fr.alloc ?_ _)) hF (fun _ _ h => h))
           have HOWN := hid hown
           try (have HZ5 := hid (hF.blk (blk_new _ _) (fun h => h)))
           try (have HZ5 := hid (hF.blk HZ4.out (fun h => h)))
           try (have q0 := blk_cell HZ5.out 0; have q1 := blk_cell HZ5.out 1; have q2 := blk_cell HZ5.out 2; have q3 := blk_cell HZ5.out 3; have f0 := blk_frozen HZ5.out 0; have f1 := blk_frozen HZ5.out 1; have f2 := blk_frozen HZ5.out 2; have f3 := blk_frozen HZ5.out 3; simp only [List.getElem?_toArray, List.getElem?_cons_zero, List.getElem?_cons_succ] at q0 q1 q2 q3)
           clear hF hown))
      all_goals
        have hs3 := HG4.out.size
        have hs0 := HF3.out.size
        first
          | (obtain ⟨W6, hW6, hb6⟩ := back_sets (x := x2) (ng := ng) HZ5.out rfl (by first | exact blk_lt HZ4.out | (rw [World.size_alloc]; omega)) (by first | exact Nat.le_refl _ | exact hs3) (by first | exact hs0 | exact Nat.le_trans hs0 hs3) HOWN.out HG5.out HF5.out
             rw [hW6]
             clear hW6
             have HB6 := hid hb6
             clear hb6 HZ5 q0 q1 q2 q3 f0 f1 f2 f3
             generalize w4.heap.size = Zb at HB6 ⊢)
          | (obtain ⟨W6, hW6, hb6⟩ := back_sets (x := x2) (ng := ng) HZ5.out rfl (by first | exact blk_lt HZ4.out | (rw [World.size_alloc]; omega)) (by first | exact Nat.le_refl _ | exact hs3) (by first | exact hs0 | exact Nat.le_trans hs0 hs3) HOWN.out HG5.out HF5.out
             rw [hW6]
             clear hW6
             have HB6 := hid hb6
             clear hb6 HZ5 q0 q1 q2 q3 f0 f1 f2 f3
             generalize W3.heap.size = Zb at HB6 ⊢)
          | (obtain ⟨W6, hW6, hb6⟩ := back_new (x := x2) (ng := ng) HOWN.out HG5.out HF5.out
             rw [hW6]
             clear hW6
             have HB6 := hid hb6
             clear hb6
             generalize w5.heap.size = Zb at HB6 ⊢)
      all_goals
        clear HF5 HG5 HOWN b0 b1 b2 b3 d0 d1 d2 d3 a0 a1 a2 a3 HI HP hs3 hs0
        have hl4 : (limbs (nval ws)).length ≤ 3 := by rw [← HWS.out]; exact HL3.out
        have z0 := blk_cell HB6.out.1 0; have z1 := blk_cell HB6.out.1 1; have z2 := blk_cell HB6.out.1 2; have z3 := blk_cell HB6.out.1 3
        simp only [List.getElem?_toArray, List.getElem?_cons_zero, List.getElem?_cons_succ] at z0 z1 z2 z3
        have HL4 := hid hl4
        clear hl4
        go_wp2_with fail
        have HO := ofDecC 0 ng (limbs (nval ws)) x2 (limbs_lt _) (by have := HL4.out; omega) A5 n5 c5 W6 HB6.out.2.1
        unfold OfDecRes at HO
        rw [nval_limbs, show (decide ((0 : Int) = 0) && decide (limbs (nval ws) = limbs (nval ws))) = true by simp] at HO
        refine HO.mono ?_
        clear HO z0 z1 z2 z3
        rintro e w7 ⟨A3, n3, c3, rfl, hC3, hF4⟩
        have HZ3 : Hid (Fr NoB w7 (w7.alloc (.cells #[.bool ng, .slice A3 n3 c3, .int .i64 x2] 25))) := hid ((Fr.refl _ _).alloc _)
        have HY3 : Hid (BlkAt (w7.alloc (.cells #[.bool ng, .slice A3 n3 c3, .int .i64 x2] 25)) w7.heap.size #[.bool ng, .slice A3 n3 c3, .int .i64 x2] 25) := hid (blk_new _ _)
        have HZv := hid (hF4.trans HZ3.out (fun _ _ h => h))
        have HVv := hid (HB6.out.2.2.1.trans HZv.out (fun _ _ h => h))
        have hz3 := HZv.out.blk HB6.out.1 (fun h => h)
        have hv3 := HVv.out.blk HV2.out (fun h => h)
        have z0 := blk_cell hz3 0; have z1 := blk_cell hz3 1; have z2 := blk_cell hz3 2; have z3 := blk_cell hz3 3
        have v0 := blk_cell hv3 0; have v1 := blk_cell hv3 1; have v2 := blk_cell hv3 2
        have y0 := blk_cell HY3.out 0
        simp only [List.getElem?_toArray, List.getElem?_cons_zero, List.getElem?_cons_succ] at z0 z1 z2 z3 v0 v1 v2 y0
        have HI := hid (isDecC ng (nval ws) x2 (by have := HL4.out; omega) (by have := digs_len_ws (limbs (nval ws)) (limbs_lt _); rw [nval_limbs] at this; have := HL4.out; omega) A5 A2 n5 c5 n2 c2 (w7.alloc (.cells #[.bool ng, .slice A3 n3 c3, .int .i64 x2] 25))
          (HB6.out.2.1.fr HZv.out) (HC.out.fr (HG3.out.trans HVv.out (fun _ _ h => h))))
        have HFIN := hid (HB6.out.2.2.2.trans HZv.out (fun _ _ h => h))
        clear hz3 hv3 hC3 hF4
        go_wp2_with fail
        refine HI.out.mono ?_
        rintro e w8 ⟨rfl, hF5⟩
        have HF6 := hid (HFIN.out.trans hF5 (fun _ _ h => h))
        have b0 := hF5.cell' v0 (fun h => h)
        have b1 := hF5.cell' y0 (fun h => h)
        clear hF5
        go_wp2_with fail
        go_ret
        exact ⟨by simp, HF6.out⟩

set_option maxRecDepth 100000 in
set_option maxHeartbeats 4000000 in
theorem back_2 (F : Int) (neg : Bool) (A : Option Addr) (n c : Nat) (ws : List Nat) (e0 x : Int) (w : World) (hX : CW w A n c ws) (hw : ∀ x ∈ ws, x < WB) (hr : x.tmod 4 = 2) (hx : 0 ≤ x) (hx' : x ≤ 255)
    (hI : ∀ wx, Fr NoB w wx → ws.length ≤ 3 → -100 ≤ e0 → e0 ≤ 100 → Calls Tryz.prog 17 #[.agg #[.int .i64 0, .bool neg, .slice A n c, .int .i64 e0], .int .u8 103] wx (TextRes wx (decText 103 neg (nval ws) e0)))
    (hP : ∀ wx, Fr NoB w wx → ws.length ≤ 3 → -100 ≤ e0 → e0 ≤ 100 → Calls Tryz.prog 9 #[.string ⟨(decText 103 neg (nval ws) e0).toArray⟩] wx (ParseRes wx neg (nval ws) e0)) :
    Calls Tryz.prog 6 #[.agg #[.int .i64 F, .bool neg, .slice A n c, .int .i64 e0], .int .u8 x] w (BackRes w) := by
  have HB0 : Hid (BlkAt (w.alloc (.cells #[.int .i64 F, .bool neg, .slice A n c, .int .i64 e0] 30)) w.heap.size #[.int .i64 F, .bool neg, .slice A n c, .int .i64 e0] 30) := hid (blk_new w _)
  have HF0 : Hid (Fr NoB w (w.alloc (.cells #[.int .i64 F, .bool neg, .slice A n c, .int .i64 e0] 30))) := hid ((Fr.refl _ _).alloc _)
  have HX := hid hX; have HW := hid hw; have HI := hid hI; have HP := hid hP
  clear hX hw hI hP
  go_enter Tryz.func6, Tryz.ntmps6
  go_wp2_with fail
  generalize (w.alloc (.cells #[.int .i64 F, .bool neg, .slice A n c, .int .i64 e0] 30)) = W0 at *
  refine (fits15 F neg A n c e0 W0).mono ?_
  rintro e w1 ⟨⟨ok, rfl⟩, hF⟩
  have HF1 := hid (HF0.out.trans hF (fun _ _ h => h))
  have HB1 := hid (hF.blk HB0.out (fun h => h))
  clear hF
  have b0 := blk_cell HB1.out 0; have b1 := blk_cell HB1.out 1; have b2 := blk_cell HB1.out 2; have b3 := blk_cell HB1.out 3
  simp only [List.getElem?_toArray, List.getElem?_cons_zero, List.getElem?_cons_succ] at b0 b1 b2 b3
  cases ok with
  | false =>
    go_wp2_with fail
    go_ret
    exact ⟨rfl, HF1.out⟩
  | true =>
    go_wp2_with fail
    refine (finite_all F neg A n c ws e0 w1 (HX.out.fr HF1.out) HW.out).mono ?_
    rintro e w2 ⟨hF, ng, A2, n2, c2, x2, ok, rfl, hok⟩
    have HG2 := hid hF; have HOK := hid hok
    have HF2 := hid (HF1.out.trans hF (fun _ _ h => h))
    have HB2 := hid (hF.blk HB1.out (fun h => h))
    clear hF hok b0 b1 b2 b3
    cases ok with
    | false =>
      go_wp2_with fail
      go_ret
      exact ⟨rfl, HF2.out.alloc _⟩
    | true =>
      obtain ⟨rfl, hws, hl3, hlo, hhi, rfl, rfl, hC⟩ := HOK.out rfl
      have HC := hid hC; have HWS := hid hws; have HL3 := hid hl3
      clear HOK hC hws hl3
      have HV2 : Hid (BlkAt (w2.alloc (.cells #[.bool ng, .slice A2 n2 c2, .int .i64 x2] 25)) w2.heap.size #[.bool ng, .slice A2 n2 c2, .int .i64 x2] 25) := hid (blk_new _ _)
      have HG3 : Hid (Fr NoB w2 (w2.alloc (.cells #[.bool ng, .slice A2 n2 c2, .int .i64 x2] 25))) := hid ((Fr.refl _ _).alloc _)
      go_wp2_with fail
      generalize (w2.alloc (.cells #[.bool ng, .slice A2 n2 c2, .int .i64 x2] 25)) = W3 at *
      have HF3 := hid (HF2.out.trans HG3.out (fun _ _ h => h))
      have HB3 := hid (HG3.out.blk HB2.out (fun h => h))
      have b0 := blk_cell HB3.out 0; have b1 := blk_cell HB3.out 1; have b2 := blk_cell HB3.out 2; have b3 := blk_cell HB3.out 3
      simp only [List.getElem?_toArray, List.getElem?_cons_zero, List.getElem?_cons_succ] at b0 b1 b2 b3
      have hlt := blk_lt HB3.out
      have hFd : Fr NoB W3 W3.drew := (Fr.refl _ _).drew
      have hBd := hFd.blk HB3.out (fun h => h)
      have d0 := blk_cell hBd 0; have d1 := blk_cell hBd 1; have d2 := blk_cell hBd 2; have d3 := blk_cell hBd 3
      have hBa := blk_alloc hBd (.cells #[.int .i64 0, .bool false, .slice none 0 0, .int .i64 0] 30)
      have a0 := blk_cell hBa 0; have a1 := blk_cell hBa 1; have a2 := blk_cell hBa 2; have a3 := blk_cell hBa 3
      simp only [List.getElem?_toArray, List.getElem?_cons_zero, List.getElem?_cons_succ] at d0 d1 d2 d3 a0 a1 a2 a3
      clear hFd hBd hBa
      go_region_with (first
        | (go_at_call 17; refine (HI.out _ (by repeat' (first | exact HF3.out | refine Fr.alloc ?_ _ | refine Fr.drew ?_)) HL3.out hlo hhi).mono ?_; rintro e w4 ⟨rfl, hF⟩
           have HF4 : Hid (Fr NoB w w4) := hid (Fr.trans (by repeat' (first | exact HF3.out | refine Fr.alloc ?_ _ | refine Fr.drew ?_)) hF (fun _ _ h => h))
           have HG4 : Hid (Fr NoB W3 w4) := hid (Fr.trans (by repeat' (first | exact Fr.refl _ _ | refine Fr.alloc ?_ _ | refine Fr.drew ?_)) hF (fun _ _ h => h))
           try (have HZ4 := hid (hF.blk (blk_new _ _) (fun h => h)))
           clear hF)
        | (go_at_call 9; refine (HP.out _ (by repeat' (first | exact HF4.out | refine Fr.alloc ?_ _)) HL3.out hlo hhi).mono ?_; rintro e w5 ⟨A5, n5, c5, rfl, hown, hF⟩
           have HF5 : Hid (Fr NoB w w5) := hid (Fr.trans (by repeat' (first | exact HF4.out | refine Fr.alloc ?_ _)) hF (fun _ _ h => h))
           have HG5 : Hid (Fr NoB W3 w5) := hid (Fr.trans (by repeat' (first | exact HG4.out | refine Fr.alloc ?_ _)) hF (fun _ _ h => h))
           have HOWN := hid hown
           try (have HZ5 := hid (hF.blk (blk_new _ _) (fun h => h)))
           try (have HZ5 := hid (hF.blk HZ4.out (fun h => h)))
           try (have q0 := blk_cell HZ5.out 0; have q1 := blk_cell HZ5.out 1; have q2 := blk_cell HZ5.out 2; have q3 := blk_cell HZ5.out 3; have f0 := blk_frozen HZ5.out 0; have f1 := blk_frozen HZ5.out 1; have f2 := blk_frozen HZ5.out 2; have f3 := blk_frozen HZ5.out 3; simp only [List.getElem?_toArray, List.getElem?_cons_zero, List.getElem?_cons_succ] at q0 q1 q2 q3)
           clear hF hown))
      all_goals
        have hs3 := HG4.out.size
        have hs0 := HF3.out.size
        first
          | (obtain ⟨W6, hW6, hb6⟩ := back_sets (x := x2) (ng := ng) HZ5.out rfl (by first | exact blk_lt HZ4.out | (rw [World.size_alloc]; omega)) (by first | exact Nat.le_refl _ | exact hs3) (by first | exact hs0 | exact Nat.le_trans hs0 hs3) HOWN.out HG5.out HF5.out
             rw [hW6]
             clear hW6
             have HB6 := hid hb6
             clear hb6 HZ5 q0 q1 q2 q3 f0 f1 f2 f3
             generalize w4.heap.size = Zb at HB6 ⊢)
          | (obtain ⟨W6, hW6, hb6⟩ := back_sets (x := x2) (ng := ng) HZ5.out rfl (by first | exact blk_lt HZ4.out | (rw [World.size_alloc]; omega)) (by first | exact Nat.le_refl _ | exact hs3) (by first | exact hs0 | exact Nat.le_trans hs0 hs3) HOWN.out HG5.out HF5.out
             rw [hW6]
             clear hW6
             have HB6 := hid hb6
             clear hb6 HZ5 q0 q1 q2 q3 f0 f1 f2 f3
             generalize W3.heap.size = Zb at HB6 ⊢)
          | (obtain ⟨W6, hW6, hb6⟩ := back_new (x := x2) (ng := ng) HOWN.out HG5.out HF5.out
             rw [hW6]
             clear hW6
             have HB6 := hid hb6
             clear hb6
             generalize w5.heap.size = Zb at HB6 ⊢)
      all_goals
        clear HF5 HG5 HOWN b0 b1 b2 b3 d0 d1 d2 d3 a0 a1 a2 a3 HI HP hs3 hs0
        have hl4 : (limbs (nval ws)).length ≤ 3 := by rw [← HWS.out]; exact HL3.out
        have z0 := blk_cell HB6.out.1 0; have z1 := blk_cell HB6.out.1 1; have z2 := blk_cell HB6.out.1 2; have z3 := blk_cell HB6.out.1 3
        simp only [List.getElem?_toArray, List.getElem?_cons_zero, List.getElem?_cons_succ] at z0 z1 z2 z3
        have HL4 := hid hl4
        clear hl4
        go_wp2_with fail
        have HO := ofDecC 0 ng (limbs (nval ws)) x2 (limbs_lt _) (by have := HL4.out; omega) A5 n5 c5 W6 HB6.out.2.1
        unfold OfDecRes at HO
        rw [nval_limbs, show (decide ((0 : Int) = 0) && decide (limbs (nval ws) = limbs (nval ws))) = true by simp] at HO
        refine HO.mono ?_
        clear HO z0 z1 z2 z3
        rintro e w7 ⟨A3, n3, c3, rfl, hC3, hF4⟩
        have HZ3 : Hid (Fr NoB w7 (w7.alloc (.cells #[.bool ng, .slice A3 n3 c3, .int .i64 x2] 25))) := hid ((Fr.refl _ _).alloc _)
        have HY3 : Hid (BlkAt (w7.alloc (.cells #[.bool ng, .slice A3 n3 c3, .int .i64 x2] 25)) w7.heap.size #[.bool ng, .slice A3 n3 c3, .int .i64 x2] 25) := hid (blk_new _ _)
        have HZv := hid (hF4.trans HZ3.out (fun _ _ h => h))
        have HVv := hid (HB6.out.2.2.1.trans HZv.out (fun _ _ h => h))
        have hz3 := HZv.out.blk HB6.out.1 (fun h => h)
        have hv3 := HVv.out.blk HV2.out (fun h => h)
        have z0 := blk_cell hz3 0; have z1 := blk_cell hz3 1; have z2 := blk_cell hz3 2; have z3 := blk_cell hz3 3
        have v0 := blk_cell hv3 0; have v1 := blk_cell hv3 1; have v2 := blk_cell hv3 2
        have y0 := blk_cell HY3.out 0
        simp only [List.getElem?_toArray, List.getElem?_cons_zero, List.getElem?_cons_succ] at z0 z1 z2 z3 v0 v1 v2 y0
        have HI := hid (isDecC ng (nval ws) x2 (by have := HL4.out; omega) (by have := digs_len_ws (limbs (nval ws)) (limbs_lt _); rw [nval_limbs] at this; have := HL4.out; omega) A5 A2 n5 c5 n2 c2 (w7.alloc (.cells #[.bool ng, .slice A3 n3 c3, .int .i64 x2] 25))
          (HB6.out.2.1.fr HZv.out) (HC.out.fr (HG3.out.trans HVv.out (fun _ _ h => h))))
        have HFIN := hid (HB6.out.2.2.2.trans HZv.out (fun _ _ h => h))
        clear hz3 hv3 hC3 hF4
        go_wp2_with fail
        refine HI.out.mono ?_
        rintro e w8 ⟨rfl, hF5⟩
        have HF6 := hid (HFIN.out.trans hF5 (fun _ _ h => h))
        have b0 := hF5.cell' v0 (fun h => h)
        have b1 := hF5.cell' y0 (fun h => h)
        clear hF5
        go_wp2_with fail
        go_ret
        exact ⟨by simp, HF6.out⟩

set_option maxRecDepth 100000 in
set_option maxHeartbeats 4000000 in
theorem back_3 (F : Int) (neg : Bool) (A : Option Addr) (n c : Nat) (ws : List Nat) (e0 x : Int) (w : World) (hX : CW w A n c ws) (hw : ∀ x ∈ ws, x < WB) (hr : x.tmod 4 = 3) (hx : 0 ≤ x) (hx' : x ≤ 255)
    (hI : ∀ wx, Fr NoB w wx → ws.length ≤ 3 → -100 ≤ e0 → e0 ≤ 100 → Calls Tryz.prog 17 #[.agg #[.int .i64 0, .bool neg, .slice A n c, .int .i64 e0], .int .u8 71] wx (TextRes wx (decText 71 neg (nval ws) e0)))
    (hP : ∀ wx, Fr NoB w wx → ws.length ≤ 3 → -100 ≤ e0 → e0 ≤ 100 → Calls Tryz.prog 9 #[.string ⟨(decText 71 neg (nval ws) e0).toArray⟩] wx (ParseRes wx neg (nval ws) e0)) :
    Calls Tryz.prog 6 #[.agg #[.int .i64 F, .bool neg, .slice A n c, .int .i64 e0], .int .u8 x] w (BackRes w) := by
  have HB0 : Hid (BlkAt (w.alloc (.cells #[.int .i64 F, .bool neg, .slice A n c, .int .i64 e0] 30)) w.heap.size #[.int .i64 F, .bool neg, .slice A n c, .int .i64 e0] 30) := hid (blk_new w _)
  have HF0 : Hid (Fr NoB w (w.alloc (.cells #[.int .i64 F, .bool neg, .slice A n c, .int .i64 e0] 30))) := hid ((Fr.refl _ _).alloc _)
  have HX := hid hX; have HW := hid hw; have HI := hid hI; have HP := hid hP
  clear hX hw hI hP
  go_enter Tryz.func6, Tryz.ntmps6
  go_wp2_with fail
  generalize (w.alloc (.cells #[.int .i64 F, .bool neg, .slice A n c, .int .i64 e0] 30)) = W0 at *
  refine (fits15 F neg A n c e0 W0).mono ?_
  rintro e w1 ⟨⟨ok, rfl⟩, hF⟩
  have HF1 := hid (HF0.out.trans hF (fun _ _ h => h))
  have HB1 := hid (hF.blk HB0.out (fun h => h))
  clear hF
  have b0 := blk_cell HB1.out 0; have b1 := blk_cell HB1.out 1; have b2 := blk_cell HB1.out 2; have b3 := blk_cell HB1.out 3
  simp only [List.getElem?_toArray, List.getElem?_cons_zero, List.getElem?_cons_succ] at b0 b1 b2 b3
  cases ok with
  | false =>
    go_wp2_with fail
    go_ret
    exact ⟨rfl, HF1.out⟩
  | true =>
    go_wp2_with fail
    refine (finite_all F neg A n c ws e0 w1 (HX.out.fr HF1.out) HW.out).mono ?_
    rintro e w2 ⟨hF, ng, A2, n2, c2, x2, ok, rfl, hok⟩
    have HG2 := hid hF; have HOK := hid hok
    have HF2 := hid (HF1.out.trans hF (fun _ _ h => h))
    have HB2 := hid (hF.blk HB1.out (fun h => h))
    clear hF hok b0 b1 b2 b3
    cases ok with
    | false =>
      go_wp2_with fail
      go_ret
      exact ⟨rfl, HF2.out.alloc _⟩
    | true =>
      obtain ⟨rfl, hws, hl3, hlo, hhi, rfl, rfl, hC⟩ := HOK.out rfl
      have HC := hid hC; have HWS := hid hws; have HL3 := hid hl3
      clear HOK hC hws hl3
      have HV2 : Hid (BlkAt (w2.alloc (.cells #[.bool ng, .slice A2 n2 c2, .int .i64 x2] 25)) w2.heap.size #[.bool ng, .slice A2 n2 c2, .int .i64 x2] 25) := hid (blk_new _ _)
      have HG3 : Hid (Fr NoB w2 (w2.alloc (.cells #[.bool ng, .slice A2 n2 c2, .int .i64 x2] 25))) := hid ((Fr.refl _ _).alloc _)
      go_wp2_with fail
      generalize (w2.alloc (.cells #[.bool ng, .slice A2 n2 c2, .int .i64 x2] 25)) = W3 at *
      have HF3 := hid (HF2.out.trans HG3.out (fun _ _ h => h))
      have HB3 := hid (HG3.out.blk HB2.out (fun h => h))
      have b0 := blk_cell HB3.out 0; have b1 := blk_cell HB3.out 1; have b2 := blk_cell HB3.out 2; have b3 := blk_cell HB3.out 3
      simp only [List.getElem?_toArray, List.getElem?_cons_zero, List.getElem?_cons_succ] at b0 b1 b2 b3
      have hlt := blk_lt HB3.out
      have hFd : Fr NoB W3 W3.drew := (Fr.refl _ _).drew
      have hBd := hFd.blk HB3.out (fun h => h)
      have d0 := blk_cell hBd 0; have d1 := blk_cell hBd 1; have d2 := blk_cell hBd 2; have d3 := blk_cell hBd 3
      have hBa := blk_alloc hBd (.cells #[.int .i64 0, .bool false, .slice none 0 0, .int .i64 0] 30)
      have a0 := blk_cell hBa 0; have a1 := blk_cell hBa 1; have a2 := blk_cell hBa 2; have a3 := blk_cell hBa 3
      simp only [List.getElem?_toArray, List.getElem?_cons_zero, List.getElem?_cons_succ] at d0 d1 d2 d3 a0 a1 a2 a3
      clear hFd hBd hBa
      go_region_with (first
        | (go_at_call 17; refine (HI.out _ (by repeat' (first | exact HF3.out | refine Fr.alloc ?_ _ | refine Fr.drew ?_)) HL3.out hlo hhi).mono ?_; rintro e w4 ⟨rfl, hF⟩
           have HF4 : Hid (Fr NoB w w4) := hid (Fr.trans (by repeat' (first | exact HF3.out | refine Fr.alloc ?_ _ | refine Fr.drew ?_)) hF (fun _ _ h => h))
           have HG4 : Hid (Fr NoB W3 w4) := hid (Fr.trans (by repeat' (first | exact Fr.refl _ _ | refine Fr.alloc ?_ _ | refine Fr.drew ?_)) hF (fun _ _ h => h))
           try (have HZ4 := hid (hF.blk (blk_new _ _) (fun h => h)))
           clear hF)
        | (go_at_call 9; refine (HP.out _ (by repeat' (first | exact HF4.out | refine Fr.alloc ?_ _)) HL3.out hlo hhi).mono ?_; rintro e w5 ⟨A5, n5, c5, rfl, hown, hF⟩
           have HF5 : Hid (Fr NoB w w5) := hid (Fr.trans (by repeat' (first | exact HF4.out | refine Fr.alloc ?_ _)) hF (fun _ _ h => h))
           have HG5 : Hid (Fr NoB W3 w5) := hid (Fr.trans (by repeat' (first | exact HG4.out | refine Fr.alloc ?_ _)) hF (fun _ _ h => h))
           have HOWN := hid hown
           try (have HZ5 := hid (hF.blk (blk_new _ _) (fun h => h)))
           try (have HZ5 := hid (hF.blk HZ4.out (fun h => h)))
           try (have q0 := blk_cell HZ5.out 0; have q1 := blk_cell HZ5.out 1; have q2 := blk_cell HZ5.out 2; have q3 := blk_cell HZ5.out 3; have f0 := blk_frozen HZ5.out 0; have f1 := blk_frozen HZ5.out 1; have f2 := blk_frozen HZ5.out 2; have f3 := blk_frozen HZ5.out 3; simp only [List.getElem?_toArray, List.getElem?_cons_zero, List.getElem?_cons_succ] at q0 q1 q2 q3)
           clear hF hown))
      all_goals
        have hs3 := HG4.out.size
        have hs0 := HF3.out.size
        first
          | (obtain ⟨W6, hW6, hb6⟩ := back_sets (x := x2) (ng := ng) HZ5.out rfl (by first | exact blk_lt HZ4.out | (rw [World.size_alloc]; omega)) (by first | exact Nat.le_refl _ | exact hs3) (by first | exact hs0 | exact Nat.le_trans hs0 hs3) HOWN.out HG5.out HF5.out
             rw [hW6]
             clear hW6
             have HB6 := hid hb6
             clear hb6 HZ5 q0 q1 q2 q3 f0 f1 f2 f3
             generalize w4.heap.size = Zb at HB6 ⊢)
          | (obtain ⟨W6, hW6, hb6⟩ := back_sets (x := x2) (ng := ng) HZ5.out rfl (by first | exact blk_lt HZ4.out | (rw [World.size_alloc]; omega)) (by first | exact Nat.le_refl _ | exact hs3) (by first | exact hs0 | exact Nat.le_trans hs0 hs3) HOWN.out HG5.out HF5.out
             rw [hW6]
             clear hW6
             have HB6 := hid hb6
             clear hb6 HZ5 q0 q1 q2 q3 f0 f1 f2 f3
             generalize W3.heap.size = Zb at HB6 ⊢)
          | (obtain ⟨W6, hW6, hb6⟩ := back_new (x := x2) (ng := ng) HOWN.out HG5.out HF5.out
             rw [hW6]
             clear hW6
             have HB6 := hid hb6
             clear hb6
             generalize w5.heap.size = Zb at HB6 ⊢)
      all_goals
        clear HF5 HG5 HOWN b0 b1 b2 b3 d0 d1 d2 d3 a0 a1 a2 a3 HI HP hs3 hs0
        have hl4 : (limbs (nval ws)).length ≤ 3 := by rw [← HWS.out]; exact HL3.out
        have z0 := blk_cell HB6.out.1 0; have z1 := blk_cell HB6.out.1 1; have z2 := blk_cell HB6.out.1 2; have z3 := blk_cell HB6.out.1 3
        simp only [List.getElem?_toArray, List.getElem?_cons_zero, List.getElem?_cons_succ] at z0 z1 z2 z3
        have HL4 := hid hl4
        clear hl4
        go_wp2_with fail
        have HO := ofDecC 0 ng (limbs (nval ws)) x2 (limbs_lt _) (by have := HL4.out; omega) A5 n5 c5 W6 HB6.out.2.1
        unfold OfDecRes at HO
        rw [nval_limbs, show (decide ((0 : Int) = 0) && decide (limbs (nval ws) = limbs (nval ws))) = true by simp] at HO
        refine HO.mono ?_
        clear HO z0 z1 z2 z3
        rintro e w7 ⟨A3, n3, c3, rfl, hC3, hF4⟩
        have HZ3 : Hid (Fr NoB w7 (w7.alloc (.cells #[.bool ng, .slice A3 n3 c3, .int .i64 x2] 25))) := hid ((Fr.refl _ _).alloc _)
        have HY3 : Hid (BlkAt (w7.alloc (.cells #[.bool ng, .slice A3 n3 c3, .int .i64 x2] 25)) w7.heap.size #[.bool ng, .slice A3 n3 c3, .int .i64 x2] 25) := hid (blk_new _ _)
        have HZv := hid (hF4.trans HZ3.out (fun _ _ h => h))
        have HVv := hid (HB6.out.2.2.1.trans HZv.out (fun _ _ h => h))
        have hz3 := HZv.out.blk HB6.out.1 (fun h => h)
        have hv3 := HVv.out.blk HV2.out (fun h => h)
        have z0 := blk_cell hz3 0; have z1 := blk_cell hz3 1; have z2 := blk_cell hz3 2; have z3 := blk_cell hz3 3
        have v0 := blk_cell hv3 0; have v1 := blk_cell hv3 1; have v2 := blk_cell hv3 2
        have y0 := blk_cell HY3.out 0
        simp only [List.getElem?_toArray, List.getElem?_cons_zero, List.getElem?_cons_succ] at z0 z1 z2 z3 v0 v1 v2 y0
        have HI := hid (isDecC ng (nval ws) x2 (by have := HL4.out; omega) (by have := digs_len_ws (limbs (nval ws)) (limbs_lt _); rw [nval_limbs] at this; have := HL4.out; omega) A5 A2 n5 c5 n2 c2 (w7.alloc (.cells #[.bool ng, .slice A3 n3 c3, .int .i64 x2] 25))
          (HB6.out.2.1.fr HZv.out) (HC.out.fr (HG3.out.trans HVv.out (fun _ _ h => h))))
        have HFIN := hid (HB6.out.2.2.2.trans HZv.out (fun _ _ h => h))
        clear hz3 hv3 hC3 hF4
        go_wp2_with fail
        refine HI.out.mono ?_
        rintro e w8 ⟨rfl, hF5⟩
        have HF6 := hid (HFIN.out.trans hF5 (fun _ _ h => h))
        have b0 := hF5.cell' v0 (fun h => h)
        have b1 := hF5.cell' y0 (fun h => h)
        clear hF5
        go_wp2_with fail
        go_ret
        exact ⟨by simp, HF6.out⟩


theorem nDigits_pos_le {V : Nat} (h : blen V ≤ 250) : 1 ≤ Lib.nDigits V ∧ Lib.nDigits V ≤ 100 := by
  refine ⟨Lib.nDigits_pos _, ?_⟩
  by_cases h0 : V = 0
  · subst h0; rw [Lib.nDigits_small (by omega)]; omega
  · have h2 := (blen_bounds h0).2.1
    have h3 : (2 : Nat) ^ blen V ≤ 2 ^ 250 := Nat.pow_le_pow_right (by omega) h
    have h4 : (2 : Nat) ^ 250 < 10 ^ 100 := by decide
    exact nDigits_le h0 (by omega)
theorem back_law (F : Int) (neg : Bool) (A : Option Addr) (n c : Nat) (ws : List Nat) (e0 x : Int) (w : World) (hX : CW w A n c ws) (hw : ∀ x ∈ ws, x < WB) (hx : 0 ≤ x) (hx' : x ≤ 255) {a : Addr} {tpS tpR : TypeId} {pS pR : Value} {r : ByteArray} (hV : Vars w a tpS tpR pS pR r) (hT : Thr w) (hU : TabU w) :
    Calls Tryz.prog 6 #[.agg #[.int .i64 F, .bool neg, .slice A n c, .int .i64 e0], .int .u8 x] w fun e w' => e = .returned (.bool true) ∧ Below w.heap.size w w' := by
  have hI : ∀ (b : UInt8), FormC b → ∀ wx, Fr NoB w wx → ws.length ≤ 3 → -100 ≤ e0 → e0 ≤ 100 → Calls Tryz.prog 17 #[.agg #[.int .i64 0, .bool neg, .slice A n c, .int .i64 e0], .int .u8 (b.toNat : Int)] wx (TextRes wx (decText b neg (nval ws) e0)) :=
    fun b hb wx hF h3 h1 h2 => implText b hb neg A n c ws e0 wx (hX.fr hF) h3 hw (by omega) (by omega) (hT.fr hF (fun _ _ h => h)) (hU.fr hF (fun h => h))
  have hP : ∀ (b : UInt8), FormC b → ∀ wx, Fr NoB w wx → ws.length ≤ 3 → -100 ≤ e0 → e0 ≤ 100 → Calls Tryz.prog 9 #[.string ⟨(decText b neg (nval ws) e0).toArray⟩] wx (ParseRes wx neg (nval ws) e0) := by
    intro b hb wx hF h3 h1 h2
    have hbl := blen_three ws hw h3
    obtain ⟨⟨ds, hN, hv⟩, hl⟩ := decText_num b hb neg (nval ws) e0 hbl h1 h2
    obtain ⟨k1, k2, k3⟩ := hN.low hl
    have hbl2 : blen (decVal ds) ≤ 250 := by rw [hv]; exact hbl
    have hn := nDigits_pos_le hbl2
    have hp := parse_text _ ds neg e0 _ wx (hV.below hF.below) (hT.fr hF (fun _ _ h => h)) k1 hl (digOk_all _ (by omega)) (by omega) (by omega) (by have := limbs_len_blen (decVal ds) 4 (by omega); omega)
    rw [hv] at hp
    exact hp
  have fin : ∀ e w', BackRes w e w' → e = .returned (.bool true) ∧ Below w.heap.size w w' := fun e w' h => ⟨h.1, h.2.below⟩
  obtain h0 | h0 | h0 | h0 : x.tmod 4 = 0 ∨ x.tmod 4 = 1 ∨ x.tmod 4 = 2 ∨ x.tmod 4 = 3 := by
    have := Int.tmod_lt_of_pos x (show (0 : Int) < 4 by omega)
    have := Int.tmod_nonneg 4 hx
    omega
  · exact (back_0 F neg A n c ws e0 x w hX hw h0 hx hx' (hI 101 (.inl rfl)) (hP 101 (.inl rfl))).mono fin
  · exact (back_1 F neg A n c ws e0 x w hX hw h0 hx hx' (hI 69 (.inr (.inl rfl))) (hP 69 (.inr (.inl rfl)))).mono fin
  · exact (back_2 F neg A n c ws e0 x w hX hw h0 hx hx' (hI 103 (.inr (.inr (.inl rfl)))) (hP 103 (.inr (.inr (.inl rfl))))).mono fin
  · exact (back_3 F neg A n c ws e0 x w hX hw h0 hx hx' (hI 71 (.inr (.inr (.inr rfl)))) (hP 71 (.inr (.inr (.inr rfl))))).mono fin
end Go.Proofs.YteokhhepnoelhaaGreatDoor
