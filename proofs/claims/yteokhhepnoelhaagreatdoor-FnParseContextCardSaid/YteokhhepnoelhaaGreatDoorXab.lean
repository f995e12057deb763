/-
  The reference's functions as Lean functions, and that the Go code comes to their answers: the kit's print (print.sh) wrote these texts for this claim; cut here to what is used.
-/
import Derived.Below
import Derived.Deep.Draws
import Derived.Deep.AppendLies
import Derived.Maps.AppendAt
import Derived.OwnWalk
import Derived.Laws.BytesArg
import Derived.Laws.MakeOwn
import Derived.Laws.OwnMore
import Derived.Deep.OwnRows
import Derived.Tactics
import Derived.Lib.ConvBytes
import Derived.Laws.Slices
import Derived.WalkKit
import Derived.KernelRfl
import Derived.RowKit3
import Derived.Deep.LoopGhost
import Derived.Deep.QuietTactic
import Derived.BigQuiet
import Derived.WideLaws
import Derived.Deep.DeepCutAuto
import Derived.Deep.CutBlock
import Derived.Deep.RegionHeld3
import Derived.Laws.Rows
import Derived.Lib.AppendStr
import Derived.ArgAppend
import Derived.Laws.IdiomCopy
import Derived.RowKit
import Derived.OrdersHeld
import Derived.Laws.BitsLemmas
import Derived.Laws.StructEq
import Derived.Test.YteokhhepnoelhaaGreatDoorProg
import Derived.Test.YteokhhepnoelhaaGreatDoorXaa
set_option linter.unusedVariables false
set_option linter.unusedSimpArgs false
namespace Go.Proofs.YteokhhepnoelhaaGreatDoor.PFnParse
open Go.RowKit Go.Proofs.YteokhhepnoelhaaGreatDoorW.PrintWords Go.Proofs.YteokhhepnoelhaaGreatDoorW.PrintLast
theorem info3 : (Tryz.prog.info? 3).map (fun i => (i.zero, i.size, i.bytes)) = some (some (.int .i64 0), 1, 8) := by kernel_rfl
theorem info36 : (Tryz.prog.info? 36).map (fun i => (i.zero, i.size, i.bytes)) = some (some (.int .u64 0), 1, 8) := by kernel_rfl
def spec_trim.l0 : Nat → List Int → Option (List Int)
 | 0, _ => none
 | k + 1, x0 => if (x0.length : Int) > 0 then (if 0 ≤ (wrap64 ((x0.length : Int) - 1)) then (if (wrap64 ((x0.length : Int) - 1)) < (x0.length : Int) then (if (rd x0 (wrap64 ((x0.length : Int) - 1))) = 0 then (if (wrap64 ((x0.length : Int) - 1)) ≤ (x0.length : Int) then (spec_trim.l0 k (x0.take ((wrap64 ((x0.length : Int) - 1)) : Int).toNat)) else (none)) else (some x0)) else (none)) else (none)) else (some x0)
def spec_trim.f (k : Nat) (l0 : List Int) : Option (List Int) := spec_trim.l0 k l0
set_option maxHeartbeats 8000000 in
set_option maxRecDepth 100000 in
theorem spec_trim.calls (k : Nat) (P0_ : Nat → Prop) (A0 : Option Addr) (c0 : Nat) (l0 : List Int) (r : List Int) (w : World) (hs0 : Kd.V (Kd.int .i64) 3 w w.heap.size (fun k_ => P0_ k_) (.slice A0 l0.length c0) l0) (h : spec_trim.f k l0 = some r) :
 Calls Tryz.prog 36 #[.slice A0 l0.length c0] w fun e w' => ∃ v0_ : Value, e = .returned (v0_) ∧ Kd.V (Kd.int .i64) 3 w' w.heap.size (fun k_ => (P0_ k_ ∨ w.heap.size ≤ k_)) v0_ r ∧ Below w.heap.size w w' := by
 have HO0 := Aside0.mk (show Kd.V (Kd.int .i64) 3 w w.heap.size (fun k_ => (P0_ k_ ∨ w.heap.size ≤ k_)) (.slice A0 l0.length c0) l0 from Kd.V_mono hs0 (fun k_ hk => .inl hk));have HB := Aside0.mk (Below.refl w.heap.size w);have H : (spec_trim.l0 k l0) = some r := h;clear h;have H' := Aside0.mk H;clear H;go_enter Tryz.func36, Tryz.ntmps36;go_wp2
 go_loopg [0] k (fun kq v0 w' => ∃ (x0_1 : List Int), Aside0 (spec_trim.l0 kq x0_1 = some r) ∧ Aside0 (kq ≤ k) ∧ Aside0 (Kd.V (Kd.int .i64) 3 w' w.heap.size (fun k_ => (P0_ k_ ∨ w.heap.size ≤ k_)) v0 x0_1) ∧ Aside0 (Below w.heap.size w w'));case atStart => exact ⟨(l0), H', ⟨Nat.le_refl _⟩, ⟨VAq HO0.out⟩, ⟨HBq⟩⟩
 case round =>
  clear H';obtain ⟨x0_1, HA, HK1, HO_0, HB⟩ := hrel;cases gk with
  | zero => exact absurd HA.out (by simp [spec_trim.l0])
  | succ k1 =>
   have H := HA.out;clear HA;simp only [spec_trim.l0] at H;by_cases c2 : (x0_1.length : Int) > 0
   · rw [if_pos c2] at H;have c2b0 : decide (0 < (x0_1.length : Int)) = true := decide_eq_true c2;have c2b1 : decide (0 < x0_1.length) = true := decide_eq_true (by omega);clear c2;obtain ⟨ji3, hji3⟩ : ∃ j_ : Int, (wrap64 ((x0_1.length : Int) - 1)) = j_ := ⟨_, rfl⟩
     replace H : (if 0 ≤ (ji3) then (if (ji3) < (x0_1.length : Int) then (if (rd x0_1 (ji3)) = 0 then (if (ji3) ≤ (x0_1.length : Int) then (spec_trim.l0 k1 (x0_1.take ((ji3) : Int).toNat)) else (none)) else (some x0_1)) else (none)) else (none)) = some r := by first | (rw [hji3] at H; exact H) | (simp only [hji3] at H ⊢; exact H)
     have hji3w : (IntKind.i64.wrap ((x0_1.length : Int) - 1)) = ji3 := (i64_w _).trans hji3;by_cases c4 : 0 ≤ (ji3)
     · rw [if_pos c4] at H;have c4b0 : decide (0 ≤ (ji3)) = true := decide_eq_true c4;clear c4;by_cases c5 : (ji3) < (x0_1.length : Int)
       · rw [if_pos c5] at H;have c5b0 : decide ((ji3) < (x0_1.length : Int)) = true := decide_eq_true c5;clear c5;by_cases c6 : (rd x0_1 (ji3)) = 0
         · rw [if_pos c6] at H;have c6b0 : ((rd x0_1 (ji3)) == 0) = true := beq_iff_eq.mpr c6;have c6b1 : ((rd x0_1 (ji3)) != 0) = false := bne_eq_false_iff_eq.mpr c6;clear c6;have c7b0 := eq_true (of_decide_eq_true asq : 0 ≤ (ji3));by_cases c8 : (ji3) ≤ (x0_1.length : Int)
           · rw [if_pos c8] at H;have c8b0 := eq_true c8;have c8b1 : decide ((ji3) ≤ (x0_1.length : Int)) = true := decide_eq_true c8;clear c8;obtain ⟨y102, hy102⟩ : ∃ y_ : List Int, y_ = (x0_1.take ((ji3) : Int).toNat) := ⟨_, rfl⟩
             replace H : (spec_trim.l0 k1 y102) = some r := by first | (rw [hy102]; exact H) | (have H2_ := (Option.bind_some _ _).symm.trans H; rw [hy102]; exact H2_) | exact H
             have Ny102 := Aside0.mk hy102;clear hy102;have H' := Aside0.mk H;clear H;obtain ⟨Ao9, co9, eo9⟩ := Kd.V_slice HO_0.out;subst eo9;have p101 : 0 ≤ ((ji3) : Int) := of_decide_eq_true asq;have q101 : (ji3) < (x0_1.length : Int) := of_decide_eq_true asq;obtain ⟨ad101, e101, hx101_0⟩ := Kd.at_int (Kd.V_reads' HO_0.out).2.2 (ji3) p101 q101;cases e101;replace p101 := eq_true p101;replace q101 := eq_true q101;have q10 : ((ji3) : Int) ≤ ((x0_1.length : Int) : Int) := of_decide_eq_true asq;obtain ⟨i010, hi010, _, hsz10, _⟩ := info_parts info3;have hroom10 : x0_1.length ≤ co9 := (Kd.V_reads' HO_0.out).2.1;have hC10 : Kd.F (Kd.int .i64) _ _ (some ad101) x0_1.length x0_1 := (Kd.V_at (base := w.heap.size) HO_0.out).2.2;have hcut10 := cut_to (P := Tryz.prog) 23 3 .i64 Tryz.underlying23 hi010 (some ad101) x0_1.length co9 (ji3) (of_decide_eq_true asq) q10 hroom10;have hr10 := Kd.F_take (m := ((ji3) : Int).toNat) hC10 (by omega);have hy10 : y102.length = ((ji3) : Int).toNat := (by rw [Ny102.out, List.length_take]; omega)
             rw [← Ny102.out] at hr10;rw [← hy10] at hcut10;have HO106 := Aside0.mk (show Kd.V (Kd.int .i64) 3 _ w.heap.size _ (.slice (some ad101) y102.length co9) y102 from Kd.V_mk (by omega) hr10);have HC106 := Aside0.mk (show y102.length ≤ co9 from by omega);clear hr10 hC10 hroom10 hi010 hsz10;have KY10 := Aside0.mk hy10;clear hy10;replace q10 := eq_true q10;go_wp2
             go_roundg k1;case measure => have := HK1.out; omega
             case rel => exact ⟨(y102), H', ⟨by have := HK1.out; omega⟩, ⟨VAq HO106.out⟩, ⟨HBq⟩⟩
           · rw [if_neg c8] at H;exact absurd H (by simp)
         · rw [if_neg c6] at H;have c6b0 : ((rd x0_1 (ji3)) == 0) = false := beq_eq_false_iff_ne.mpr c6;have c6b1 : ((rd x0_1 (ji3)) != 0) = true := bne_iff_ne.mpr c6;obtain rfl := Option.some.inj H;obtain ⟨Ao11, co11, eo11⟩ := Kd.V_slice HO_0.out;subst eo11;have p101 : 0 ≤ ((ji3) : Int) := of_decide_eq_true asq;have q101 : (ji3) < (x0_1.length : Int) := of_decide_eq_true asq;obtain ⟨ad101, e101, hx101_0⟩ := Kd.at_int (Kd.V_reads' HO_0.out).2.2 (ji3) p101 q101;cases e101;replace p101 := eq_true p101;replace q101 := eq_true q101;go_wp2
           go_ret;exact ⟨_, by first | rfl | (simp [errW_none, errW_some] <;> rfl) | (simp only [← hji3]; first | rfl | (simp [errW_none, errW_some] <;> rfl)) | (simp [*, errW_none, errW_some] <;> rfl), by (with_reducible repeat (first | apply Kd.V_alloc | apply Kd.V_drewN | apply Kd.V_drew)); exact HO_0.out, HBq⟩
       · rw [if_neg c5] at H;exact absurd H (by simp)
     · rw [if_neg c4] at H;exact absurd H (by simp)
   · rw [if_neg c2] at H;have c2b0 : decide (0 < (x0_1.length : Int)) = false := decide_eq_false c2;have c2b1 : decide (0 < x0_1.length) = false := decide_eq_false (by omega);clear c2;obtain rfl := Option.some.inj H;obtain ⟨Ao12, co12, eo12⟩ := Kd.V_slice HO_0.out;subst eo12;go_wp2
     go_ret;exact ⟨_, by first | rfl | (simp [errW_none, errW_some] <;> rfl) | (simp [*, errW_none, errW_some] <;> rfl), by (with_reducible repeat (first | apply Kd.V_alloc | apply Kd.V_drewN | apply Kd.V_drew)); exact HO_0.out, HBq⟩
mutual
def spec_Add.l0 : Nat → List Int → List Int → List Int → Int → Int → Option (List Int)
 | 0, _, _, _, _, _ => none
 | k + 1, x0, x1, x5, x6, x7 => if x7 < (x0.length : Int) then (spec_Add.j1 k x0 x1 x5 x6 x7 true) else (spec_Add.j1 k x0 x1 x5 x6 x7 (decide (x7 < (x1.length : Int))))
def spec_Add.j1 : Nat → List Int → List Int → List Int → Int → Int → Bool → Option (List Int)
 | 0, _, _, _, _, _, _ => none
 | k + 1, x0, x1, x5, x6, x7, x18 => if x18 = true then (if x7 < (x0.length : Int) then (if 0 ≤ x7 then (if x7 < (x1.length : Int) then (if x5.length < 17592186044416 then (spec_Add.l0 k x0 x1 (x5 ++ [Int.tmod (wrap64 ((wrap64 (x6 + (rd x0 x7))) + (rd x1 x7))) 65536]) (wrap64 (Int.tdiv (wrap64 ((wrap64 (x6 + (rd x0 x7))) + (rd x1 x7))) 65536)) (wrap64 (x7 + 1))) else (none)) else (if x5.length < 17592186044416 then (spec_Add.l0 k x0 x1 (x5 ++ [Int.tmod (wrap64 (x6 + (rd x0 x7))) 65536]) (wrap64 (Int.tdiv (wrap64 (x6 + (rd x0 x7))) 65536)) (wrap64 (x7 + 1))) else (none))) else (none)) else (if x7 < (x1.length : Int) then (if 0 ≤ x7 then (if x5.length < 17592186044416 then (spec_Add.l0 k x0 x1 (x5 ++ [Int.tmod (wrap64 (x6 + (rd x1 x7))) 65536]) (wrap64 (Int.tdiv (wrap64 (x6 + (rd x1 x7))) 65536)) (wrap64 (x7 + 1))) else (none)) else (none)) else (if x5.length < 17592186044416 then (spec_Add.l0 k x0 x1 (x5 ++ [Int.tmod x6 65536]) (wrap64 (Int.tdiv x6 65536)) (wrap64 (x7 + 1))) else (none)))) else (if x5.length < 17592186044416 then ((spec_trim.f k (x5 ++ [x6])).bind fun t113 => (some t113)) else (none))
end
def spec_Add.f (k : Nat) (l0 : List Int) (l1 : List Int) : Option (List Int) := spec_Add.l0 k l0 l1 (([] : List Int)) 0 0
set_option maxHeartbeats 8000000 in
set_option maxRecDepth 100000 in
theorem spec_Add.calls (k : Nat) (A0 : Option Addr) (c0 : Nat) (l0 : List Int) (A1 : Option Addr) (c1 : Nat) (l1 : List Int) (r : List Int) (w : World) (hr0 : Kd.C (Kd.int .i64) w A0 l0.length l0) (hc0 : l0.length ≤ c0) (hr1 : Kd.C (Kd.int .i64) w A1 l1.length l1) (hc1 : l1.length ≤ c1) (h : spec_Add.f k l0 l1 = some r) :
 Calls Tryz.prog 19 #[.slice A0 l0.length c0, .slice A1 l1.length c1] w fun e w' => ∃ v0_ : Value, e = .returned (v0_) ∧ Kd.V (Kd.int .i64) 3 w' w.heap.size (fun k_ => (w.heap.size ≤ k_)) v0_ r ∧ Below w.heap.size w w' := by
 have HR0 := Aside0.mk hr0;have HC0 := Aside0.mk hc0;clear hr0 hc0;have HR1 := Aside0.mk hr1;have HC1 := Aside0.mk hc1;clear hr1 hc1;have HB := Aside0.mk (Below.refl w.heap.size w);have H : (spec_Add.l0 k l0 l1 (([] : List Int)) 0 0) = some r := h;clear h;obtain ⟨y107, hy107⟩ : ∃ y_ : List Int, y_ = (([] : List Int)) := ⟨_, rfl⟩
 replace H : (spec_Add.l0 k l0 l1 y107 0 0) = some r := by first | (rw [hy107]; exact H) | (have H2_ := (Option.bind_some _ _).symm.trans H; rw [hy107]; exact H2_) | exact H
 have Ny107 := Aside0.mk hy107;clear hy107;have H' := Aside0.mk H;clear H;go_enter Tryz.func19, Tryz.ntmps19;go_wp2_with (first | ((with_reducible refine gate_dst (N := 8) rfl ?_); (try (refine gate_guard (by rfl) ?_; dsimp only)); refine Kd.R_lit (Kd.int .i64) _ 3 ?hg (N := 8) ?hd (xs := ([] : List Int)) (inner := []) (ok := fun _ => True) (okp := fun _ => True) ?hr ?hp (fun _ hk => hk) trivial (Below.refl _ _) (Nat.le_refl _) (by simp) ?_; (case hd => rfl); (case hg => rfl); (case hr => first | (go_simp; done) | (go_simp; rfl)); (case hp => exact (Reps.none _ _)); intro v108 w3 ho4 hb hg_ hnew_; clear hg_ hnew_; (first | rw [← Ny107.out] at ho4 | (simp only [Int.reduceToNat] at ho4; rw [← Ny107.out] at ho4)); have n0_ := Aside0.mk (Kd.R_lower (Kd.R_newM (M := fun k_ => (w.heap.size ≤ k_)) ho4 (below_size HBq) (fun k_ h_ => h_)) (below_size HBq)); have n1_ := Aside0.mk (below_step HBq hb); clear HB; have HO109 := n0_; have HB := n1_; clear n0_ n1_; clear hb ho4));go_loopg [5, 6, 7] k (fun kq v5 v6 v7 w' => ∃ (x5_1 : List Int) (x6_1 : Int) (x7_1 : Int), v6 = .int .i64 x6_1 ∧ v7 = .int .i64 x7_1 ∧ Aside0 (spec_Add.l0 kq l0 l1 x5_1 x6_1 x7_1 = some r) ∧ Aside0 (kq ≤ k) ∧ Aside0 (Kd.R (Kd.int .i64) 3 w' w.heap.size (fun k_ => (w.heap.size ≤ k_)) v5 x5_1) ∧ Aside0 (Below w.heap.size w w'));case atStart => exact ⟨(y107), (0), (0), rfq, rfq, H', ⟨Nat.le_refl _⟩, ⟨by (with_reducible repeat (first | apply Kd.R_alloc | apply Kd.R_drewN | apply Kd.R_drew)); exact Kd.R_mono HO109.out (fun _ hk => hk.1)⟩, ⟨HBq⟩⟩
 case round =>
  clear H';try clear c1
  try clear p2
  obtain ⟨x5_1, x6_1, x7_1, rfl, rfl, HA, HK1, HO_5, HB⟩ := hrel;cases gk with
  | zero => exact absurd HA.out (by simp [spec_Add.l0])
  | succ k1 =>
   have H := HA.out;clear HA;simp only [spec_Add.l0] at H;have HC5 := Aside0.mk H;clear H;go_upto_region 4 with (fail)
   go_cut [18] (fun v18 wc => ∃ (kq : Nat) (x18_4 : Bool), v18 = .bool x18_4 ∧ Aside0 (spec_Add.j1 kq l0 l1 x5_1 x6_1 x7_1 x18_4 = some r) ∧ Aside0 (kq ≤ k1) ∧ Aside0 (Kd.R (Kd.int .i64) 3 wc w.heap.size (fun k_ => (w.heap.size ≤ k_)) u5 x5_1) ∧ Aside0 (Below w.heap.size w wc));case first =>
    have H := HC5.out;clear HC5;by_cases c6 : x7_1 < (l0.length : Int)
    · rw [if_pos c6] at H;have c6b0 : decide (x7_1 < (l0.length : Int)) = true := decide_eq_true c6;clear c6;(first | rw [c6b0] | (simp only [i64_w, i32_w]; rw [c6b0]) | skip);have H' := Aside0.mk H;clear H;go_wp2
      go_meet;case rel => exact ⟨_, (true), rfq, H', ⟨by have := HK1.out; first | omega | exact Nat.le_refl _⟩, ⟨RAq HO_5.out⟩, ⟨HBq⟩⟩
    · rw [if_neg c6] at H;have c6b0 : decide (x7_1 < (l0.length : Int)) = false := decide_eq_false c6;clear c6;(first | rw [c6b0] | (simp only [i64_w, i32_w]; rw [c6b0]) | skip);have H' := Aside0.mk H;clear H;go_wp2
      go_meet;case rel => exact ⟨_, (decide (x7_1 < (l1.length : Int))), rfq, H', ⟨by have := HK1.out; first | omega | exact Nat.le_refl _⟩, ⟨RAq HO_5.out⟩, ⟨HBq⟩⟩
   case rest =>
    clear HC5;try clear c1
    try clear p2
    try clear c6
    try clear c6b0
    try clear p2
    obtain ⟨kq, x18_4, rfl, HA, HJ4, HO_5, HB⟩ := hcut;cases kq with
    | zero => exact absurd HA.out (by simp [spec_Add.j1])
    | succ kj4 =>
     have H := HA.out;clear HA;simp only [spec_Add.j1] at H;by_cases c7 : x18_4 = true
     · subst c7;have H1 : (if x7_1 < (l0.length : Int) then (if 0 ≤ x7_1 then (if x7_1 < (l1.length : Int) then (if x5_1.length < 17592186044416 then (spec_Add.l0 kj4 l0 l1 (x5_1 ++ [Int.tmod (wrap64 ((wrap64 (x6_1 + (rd l0 x7_1))) + (rd l1 x7_1))) 65536]) (wrap64 (Int.tdiv (wrap64 ((wrap64 (x6_1 + (rd l0 x7_1))) + (rd l1 x7_1))) 65536)) (wrap64 (x7_1 + 1))) else (none)) else (if x5_1.length < 17592186044416 then (spec_Add.l0 kj4 l0 l1 (x5_1 ++ [Int.tmod (wrap64 (x6_1 + (rd l0 x7_1))) 65536]) (wrap64 (Int.tdiv (wrap64 (x6_1 + (rd l0 x7_1))) 65536)) (wrap64 (x7_1 + 1))) else (none))) else (none)) else (if x7_1 < (l1.length : Int) then (if 0 ≤ x7_1 then (if x5_1.length < 17592186044416 then (spec_Add.l0 kj4 l0 l1 (x5_1 ++ [Int.tmod (wrap64 (x6_1 + (rd l1 x7_1))) 65536]) (wrap64 (Int.tdiv (wrap64 (x6_1 + (rd l1 x7_1))) 65536)) (wrap64 (x7_1 + 1))) else (none)) else (none)) else (if x5_1.length < 17592186044416 then (spec_Add.l0 kj4 l0 l1 (x5_1 ++ [Int.tmod x6_1 65536]) (wrap64 (Int.tdiv x6_1 65536)) (wrap64 (x7_1 + 1))) else (none)))) = some r := by rw [if_pos rfl] at H; exact H
       clear H;have H := H1;clear H1;by_cases c8 : x7_1 < (l0.length : Int)
       · rw [if_pos c8] at H;have c8b0 : decide (x7_1 < (l0.length : Int)) = true := decide_eq_true c8;clear c8;by_cases c9 : 0 ≤ x7_1
         · rw [if_pos c9] at H;have c9b0 : decide (0 ≤ x7_1) = true := decide_eq_true c9;clear c9;by_cases c10 : x7_1 < (l1.length : Int)
           · rw [if_pos c10] at H;have c10b0 : decide (x7_1 < (l1.length : Int)) = true := decide_eq_true c10;clear c10;by_cases c11 : x5_1.length < 17592186044416
             · rw [if_pos c11] at H;have LMc11 := Aside0.mk c11;clear c11;obtain ⟨y118, hy118⟩ : ∃ y_ : List Int, y_ = (x5_1 ++ [Int.tmod (wrap64 ((wrap64 (x6_1 + (rd l0 x7_1))) + (rd l1 x7_1))) 65536]) := ⟨_, rfl⟩
               replace H : (spec_Add.l0 kj4 l0 l1 y118 (wrap64 (Int.tdiv (wrap64 ((wrap64 (x6_1 + (rd l0 x7_1))) + (rd l1 x7_1))) 65536)) (wrap64 (x7_1 + 1))) = some r := by first | (rw [hy118]; exact H) | (have H2_ := (Option.bind_some _ _).symm.trans H; rw [hy118]; exact H2_) | exact H
               have Ny118 := Aside0.mk hy118;clear hy118;have H' := Aside0.mk H;clear H;have p116 : 0 ≤ (x7_1 : Int) := of_decide_eq_true asq;have q116 : x7_1 < (l0.length : Int) := of_decide_eq_true asq;obtain ⟨ad116, e116, hx116_0⟩ := Kd.at_int HR0.out x7_1 p116 q116;cases e116;replace hx116_0 := (HB.out.cell (World.block_lt_of_cell? w _ hx116_0)).trans hx116_0;replace p116 := eq_true p116;replace q116 := eq_true q116;have p117 : 0 ≤ (x7_1 : Int) := of_decide_eq_true asq;have q117 : x7_1 < (l1.length : Int) := of_decide_eq_true asq;obtain ⟨ad117, e117, hx117_0⟩ := Kd.at_int HR1.out x7_1 p117 q117;cases e117;replace hx117_0 := (HB.out.cell (World.block_lt_of_cell? w _ hx117_0)).trans hx117_0;replace p117 := eq_true p117;replace q117 := eq_true q117;go_wp2_with (first | ((with_reducible refine gate_builtin (b := .append) (xs := #[.tmp 41, .tmp 44]) rfl ?_); (try (refine gate_guard (by rfl) ?_; dsimp only)); at_builtin; refine Kd.R_append (Kd.int .i64) (w0 := w) w.heap.size rfl (.tmp 41) (.tmp 44) 23 3 (.int .i64 0) 8 rfl Tryz.underlying23 info3 rfl (by decide) (by omega) u5 x5_1 (Int.tmod (wrap64 ((wrap64 (x6_1 + (rd l0 x7_1))) + (rd l1 x7_1))) 65536) [.int .i64 (Int.tmod (wrap64 ((wrap64 (x6_1 + (rd l0 x7_1))) + (rd l1 x7_1))) 65536)] (fun k_ => (w.heap.size ≤ k_)) (fun _ => False) rfl rfl ?aP (fun _ hk => hk.elim) ?aF ?aO ?aB ?aS ?aL ?_; (case aP => exact rfl); (case aB => exact HBq); (case aF => exact (fun k_ hk => (Nat.le_trans (below_size HBq) hk))); (case aO => exact (RAq HO_5.out)); (case aS => exact (below_size HBq)); (case aL => have := LMc11.out; omega); intro v119 w12 ho hb hg hat; rw [← Ny118.out] at ho; have n0_ := Aside0.mk (hb); have n1_ := Aside0.mk (ho); clear HB; clear HO_5; have HB := n0_; have HO120 := n1_; clear n0_ n1_; clear ho hb hg hat));go_roundg kj4;case measure => have := HK1.out; have := HJ4.out; omega
               case rel => exact ⟨(y118), (wrap64 (Int.tdiv (wrap64 ((wrap64 (x6_1 + (rd l0 x7_1))) + (rd l1 x7_1))) 65536)), (wrap64 (x7_1 + 1)), rfq, rfq, H', ⟨by have := HK1.out; have := HJ4.out; omega⟩, ⟨RAq HO120.out⟩, ⟨HBq⟩⟩
             · rw [if_neg c11] at H;exact absurd H (by simp)
           · rw [if_neg c10] at H;have c10b0 : decide (x7_1 < (l1.length : Int)) = false := decide_eq_false c10;clear c10;by_cases c13 : x5_1.length < 17592186044416
             · rw [if_pos c13] at H;have LMc13 := Aside0.mk c13;clear c13;obtain ⟨y121, hy121⟩ : ∃ y_ : List Int, y_ = (x5_1 ++ [Int.tmod (wrap64 (x6_1 + (rd l0 x7_1))) 65536]) := ⟨_, rfl⟩
               replace H : (spec_Add.l0 kj4 l0 l1 y121 (wrap64 (Int.tdiv (wrap64 (x6_1 + (rd l0 x7_1))) 65536)) (wrap64 (x7_1 + 1))) = some r := by first | (rw [hy121]; exact H) | (have H2_ := (Option.bind_some _ _).symm.trans H; rw [hy121]; exact H2_) | exact H
               have Ny121 := Aside0.mk hy121;clear hy121;have H' := Aside0.mk H;clear H;have p116 : 0 ≤ (x7_1 : Int) := of_decide_eq_true asq;have q116 : x7_1 < (l0.length : Int) := of_decide_eq_true asq;obtain ⟨ad116, e116, hx116_0⟩ := Kd.at_int HR0.out x7_1 p116 q116;cases e116;replace hx116_0 := (HB.out.cell (World.block_lt_of_cell? w _ hx116_0)).trans hx116_0;replace p116 := eq_true p116;replace q116 := eq_true q116;go_wp2_with (first | ((with_reducible refine gate_builtin (b := .append) (xs := #[.tmp 41, .tmp 44]) rfl ?_); (try (refine gate_guard (by rfl) ?_; dsimp only)); at_builtin; refine Kd.R_append (Kd.int .i64) (w0 := w) w.heap.size rfl (.tmp 41) (.tmp 44) 23 3 (.int .i64 0) 8 rfl Tryz.underlying23 info3 rfl (by decide) (by omega) u5 x5_1 (Int.tmod (wrap64 (x6_1 + (rd l0 x7_1))) 65536) [.int .i64 (Int.tmod (wrap64 (x6_1 + (rd l0 x7_1))) 65536)] (fun k_ => (w.heap.size ≤ k_)) (fun _ => False) rfl rfl ?aP (fun _ hk => hk.elim) ?aF ?aO ?aB ?aS ?aL ?_; (case aP => exact rfl); (case aB => exact HBq); (case aF => exact (fun k_ hk => (Nat.le_trans (below_size HBq) hk))); (case aO => exact (RAq HO_5.out)); (case aS => exact (below_size HBq)); (case aL => have := LMc13.out; omega); intro v122 w14 ho hb hg hat; rw [← Ny121.out] at ho; have n0_ := Aside0.mk (hb); have n1_ := Aside0.mk (ho); clear HB; clear HO_5; have HB := n0_; have HO123 := n1_; clear n0_ n1_; clear ho hb hg hat));go_roundg kj4;case measure => have := HK1.out; have := HJ4.out; omega
               case rel => exact ⟨(y121), (wrap64 (Int.tdiv (wrap64 (x6_1 + (rd l0 x7_1))) 65536)), (wrap64 (x7_1 + 1)), rfq, rfq, H', ⟨by have := HK1.out; have := HJ4.out; omega⟩, ⟨RAq HO123.out⟩, ⟨HBq⟩⟩
             · rw [if_neg c13] at H;exact absurd H (by simp)
         · rw [if_neg c9] at H;exact absurd H (by simp)
       · rw [if_neg c8] at H;have c8b0 : decide (x7_1 < (l0.length : Int)) = false := decide_eq_false c8;clear c8;by_cases c15 : x7_1 < (l1.length : Int)
         · rw [if_pos c15] at H;have c15b0 : decide (x7_1 < (l1.length : Int)) = true := decide_eq_true c15;clear c15;by_cases c16 : 0 ≤ x7_1
           · rw [if_pos c16] at H;have c16b0 : decide (0 ≤ x7_1) = true := decide_eq_true c16;clear c16;by_cases c17 : x5_1.length < 17592186044416
             · rw [if_pos c17] at H;have LMc17 := Aside0.mk c17;clear c17;obtain ⟨y125, hy125⟩ : ∃ y_ : List Int, y_ = (x5_1 ++ [Int.tmod (wrap64 (x6_1 + (rd l1 x7_1))) 65536]) := ⟨_, rfl⟩
               replace H : (spec_Add.l0 kj4 l0 l1 y125 (wrap64 (Int.tdiv (wrap64 (x6_1 + (rd l1 x7_1))) 65536)) (wrap64 (x7_1 + 1))) = some r := by first | (rw [hy125]; exact H) | (have H2_ := (Option.bind_some _ _).symm.trans H; rw [hy125]; exact H2_) | exact H
               have Ny125 := Aside0.mk hy125;clear hy125;have H' := Aside0.mk H;clear H;have p124 : 0 ≤ (x7_1 : Int) := of_decide_eq_true asq;have q124 : x7_1 < (l1.length : Int) := of_decide_eq_true asq;obtain ⟨ad124, e124, hx124_0⟩ := Kd.at_int HR1.out x7_1 p124 q124;cases e124;replace hx124_0 := (HB.out.cell (World.block_lt_of_cell? w _ hx124_0)).trans hx124_0;replace p124 := eq_true p124;replace q124 := eq_true q124;go_wp2_with (first | ((with_reducible refine gate_builtin (b := .append) (xs := #[.tmp 41, .tmp 44]) rfl ?_); (try (refine gate_guard (by rfl) ?_; dsimp only)); at_builtin; refine Kd.R_append (Kd.int .i64) (w0 := w) w.heap.size rfl (.tmp 41) (.tmp 44) 23 3 (.int .i64 0) 8 rfl Tryz.underlying23 info3 rfl (by decide) (by omega) u5 x5_1 (Int.tmod (wrap64 (x6_1 + (rd l1 x7_1))) 65536) [.int .i64 (Int.tmod (wrap64 (x6_1 + (rd l1 x7_1))) 65536)] (fun k_ => (w.heap.size ≤ k_)) (fun _ => False) rfl rfl ?aP (fun _ hk => hk.elim) ?aF ?aO ?aB ?aS ?aL ?_; (case aP => exact rfl); (case aB => exact HBq); (case aF => exact (fun k_ hk => (Nat.le_trans (below_size HBq) hk))); (case aO => exact (RAq HO_5.out)); (case aS => exact (below_size HBq)); (case aL => have := LMc17.out; omega); intro v126 w18 ho hb hg hat; rw [← Ny125.out] at ho; have n0_ := Aside0.mk (hb); have n1_ := Aside0.mk (ho); clear HB; clear HO_5; have HB := n0_; have HO127 := n1_; clear n0_ n1_; clear ho hb hg hat));go_roundg kj4;case measure => have := HK1.out; have := HJ4.out; omega
               case rel => exact ⟨(y125), (wrap64 (Int.tdiv (wrap64 (x6_1 + (rd l1 x7_1))) 65536)), (wrap64 (x7_1 + 1)), rfq, rfq, H', ⟨by have := HK1.out; have := HJ4.out; omega⟩, ⟨RAq HO127.out⟩, ⟨HBq⟩⟩
             · rw [if_neg c17] at H;exact absurd H (by simp)
           · rw [if_neg c16] at H;exact absurd H (by simp)
         · rw [if_neg c15] at H;have c15b0 : decide (x7_1 < (l1.length : Int)) = false := decide_eq_false c15;clear c15;by_cases c19 : x5_1.length < 17592186044416
           · rw [if_pos c19] at H;have LMc19 := Aside0.mk c19;clear c19;obtain ⟨y128, hy128⟩ : ∃ y_ : List Int, y_ = (x5_1 ++ [Int.tmod x6_1 65536]) := ⟨_, rfl⟩
             replace H : (spec_Add.l0 kj4 l0 l1 y128 (wrap64 (Int.tdiv x6_1 65536)) (wrap64 (x7_1 + 1))) = some r := by first | (rw [hy128]; exact H) | (have H2_ := (Option.bind_some _ _).symm.trans H; rw [hy128]; exact H2_) | exact H
             have Ny128 := Aside0.mk hy128;clear hy128;have H' := Aside0.mk H;clear H;go_wp2_with (first | ((with_reducible refine gate_builtin (b := .append) (xs := #[.tmp 41, .tmp 44]) rfl ?_); (try (refine gate_guard (by rfl) ?_; dsimp only)); at_builtin; refine Kd.R_append (Kd.int .i64) (w0 := w) w.heap.size rfl (.tmp 41) (.tmp 44) 23 3 (.int .i64 0) 8 rfl Tryz.underlying23 info3 rfl (by decide) (by omega) u5 x5_1 (Int.tmod x6_1 65536) [.int .i64 (Int.tmod x6_1 65536)] (fun k_ => (w.heap.size ≤ k_)) (fun _ => False) rfl rfl ?aP (fun _ hk => hk.elim) ?aF ?aO ?aB ?aS ?aL ?_; (case aP => exact rfl); (case aB => exact HBq); (case aF => exact (fun k_ hk => (Nat.le_trans (below_size HBq) hk))); (case aO => exact (RAq HO_5.out)); (case aS => exact (below_size HBq)); (case aL => have := LMc19.out; omega); intro v129 w20 ho hb hg hat; rw [← Ny128.out] at ho; have n0_ := Aside0.mk (hb); have n1_ := Aside0.mk (ho); clear HB; clear HO_5; have HB := n0_; have HO130 := n1_; clear n0_ n1_; clear ho hb hg hat));go_roundg kj4;case measure => have := HK1.out; have := HJ4.out; omega
             case rel => exact ⟨(y128), (wrap64 (Int.tdiv x6_1 65536)), (wrap64 (x7_1 + 1)), rfq, rfq, H', ⟨by have := HK1.out; have := HJ4.out; omega⟩, ⟨RAq HO130.out⟩, ⟨HBq⟩⟩
           · rw [if_neg c19] at H;exact absurd H (by simp)
     · replace c7 := Bool.eq_false_iff.mpr c7;subst c7;have H1 : (if x5_1.length < 17592186044416 then ((spec_trim.f kj4 (x5_1 ++ [x6_1])).bind fun t113 => (some t113)) else (none)) = some r := by rw [if_neg (show ¬ (false = true) by decide)] at H; exact H
       clear H;have H := H1;clear H1;by_cases c21 : x5_1.length < 17592186044416
       · rw [if_pos c21] at H;have LMc21 := Aside0.mk c21;clear c21;obtain ⟨y110, hy110⟩ : ∃ y_ : List Int, y_ = (x5_1 ++ [x6_1]) := ⟨_, rfl⟩
         replace H : ((spec_trim.f kj4 y110).bind fun t113 => (some t113)) = some r := by first | (rw [hy110]; exact H) | (have H2_ := (Option.bind_some _ _).symm.trans H; rw [hy110]; exact H2_) | exact H
         have Ny110 := Aside0.mk hy110;clear hy110;replace H := Option.bind_eq_some_iff.mp H;obtain ⟨t113, A220, H⟩ := H;replace H : (some t113) = some r := H;have A22 := Aside0.mk A220;clear A220;obtain rfl := Option.some.inj H;go_wp2_with (first | ((with_reducible refine gate_builtin (b := .append) (xs := #[.tmp 48, .tmp 50]) rfl ?_); (try (refine gate_guard (by rfl) ?_; dsimp only)); at_builtin; refine Kd.R_append (Kd.int .i64) (w0 := w) w.heap.size rfl (.tmp 48) (.tmp 50) 23 3 (.int .i64 0) 8 rfl Tryz.underlying23 info3 rfl (by decide) (by omega) u5 x5_1 x6_1 [.int .i64 x6_1] (fun k_ => (w.heap.size ≤ k_)) (fun _ => False) rfl rfl ?aP (fun _ hk => hk.elim) ?aF ?aO ?aB ?aS ?aL ?_; (case aP => exact rfl); (case aB => exact HBq); (case aF => exact (fun k_ hk => (Nat.le_trans (below_size HBq) hk))); (case aO => exact (RAq HO_5.out)); (case aS => exact (below_size HBq)); (case aL => have := LMc21.out; omega); intro v111 w23 ho hb hg hat; rw [← Ny110.out] at ho; have n0_ := Aside0.mk (hb); have n1_ := Aside0.mk (ho); clear HB; clear HO_5; have HB := n0_; have HO112 := n1_; clear n0_ n1_; clear ho hb hg hat; obtain ⟨Ao24, co24, eo24⟩ := Kd.R_slice HO112.out; subst eo24) | ((with_reducible refine gate_callee (f := 36) rfl ?_); refine goesL_ (some 52) rfl rfl Tryz.func36 (by kernel_rfl) rfl #[.slice Ao24 y110.length co24] rfl (by (try simp only [List.map_toArray, List.map_cons, List.map_nil]); first | done | rfl | (simp only [List.length_drop, List.length_take]; rfl)) ?_; (with_reducible refine (spec_trim.calls kj4 (fun k_ => some k_ = (.slice Ao24 y110.length co24 : Value).ownBlock) _ _ y110 t113 _ ?side1 A22.out).mono ?_); (case side1 => exact Kd.R_V (Kd.R_tight rfl (HO112.out))); rintro e w25 ⟨v114, rfl, ho0, hb⟩; refine ⟨_, rfl, ?_⟩; have n0_ := Aside0.mk (Kd.R_below (RAq HO112.out) hb); have n1_ := Aside0.mk (Kd.V_lower (Kd.V_mono (ok' := fun k_ => (w.heap.size ≤ k_)) ho0 (fun k_ hk_ => Or.elim hk_ (fun hs_ => ((HO112.out).1 k_ hs_.symm)) (fun hn_ => (Nat.le_trans (below_size HBq) hn_)))) (below_size HBq)); have n2_ := Aside0.mk (below_step HBq hb); clear HO112; clear HB; have HO112 := n0_; have HO115 := n1_; have HB := n2_; clear n0_ n1_ n2_; (try clear hb); (try clear hb2); (try clear hk); (try clear hi); (try clear ho0)));go_ret;exact ⟨_, by first | rfl | (simp [errW_none, errW_some] <;> rfl) | (simp [*, errW_none, errW_some] <;> rfl), by (with_reducible repeat (first | apply Kd.V_alloc | apply Kd.V_drewN | apply Kd.V_drew)); exact HO115.out, HBq⟩
       · rw [if_neg c21] at H;exact absurd H (by simp)
mutual
def spec_Mul.l0 : Nat → List Int → List Int → List Int → Int → Int → Option (List Int)
 | 0, _, _, _, _, _ => none
 | k + 1, x1, x5, x17, x18, x19 => if x19 < x18 then (if 0 ≤ x19 then (if x19 < (x17.length : Int) then (spec_Mul.l1 k x1 x5 x19 (rd x17 x19) 0 x17 x18 x19 x1 (x1.length : Int) 0) else (none)) else (none)) else ((spec_trim.f k x5).bind fun t134 => (some t134))
def spec_Mul.l1 : Nat → List Int → List Int → Int → Int → Int → List Int → Int → Int → List Int → Int → Int → Option (List Int)
 | 0, _, _, _, _, _, _, _, _, _, _, _ => none
 | k + 1, x1, x5, x6, x7, x8, x17, x18, x19, x24, x25, x26 => if x26 < x25 then (if 0 ≤ x26 then (if x26 < (x24.length : Int) then (if 0 ≤ (wrap64 (x6 + x26)) then (if (wrap64 (x6 + x26)) < (x5.length : Int) then (spec_Mul.l1 k x1 (x5.set ((wrap64 (x6 + x26)) : Int).toNat (Int.tmod (wrap64 (x8 + (wrap64 ((rd x5 (wrap64 (x6 + x26))) + (wrap64 (x7 * (rd x24 x26))))))) 65536)) x6 x7 (wrap64 (Int.tdiv (wrap64 (x8 + (wrap64 ((rd x5 (wrap64 (x6 + x26))) + (wrap64 (x7 * (rd x24 x26))))))) 65536)) x17 x18 x19 x24 x25 (wrap64 (x26 + 1))) else (none)) else (none)) else (none)) else (none)) else (if 0 ≤ (wrap64 (x6 + (x1.length : Int))) then (if (wrap64 (x6 + (x1.length : Int))) < (x5.length : Int) then (spec_Mul.l0 k x1 (x5.set ((wrap64 (x6 + (x1.length : Int))) : Int).toNat x8) x17 x18 (wrap64 (x19 + 1))) else (none)) else (none))
end
def spec_Mul.f (k : Nat) (l0 : List Int) (l1 : List Int) : Option (List Int) := if 0 ≤ (wrap64 ((l0.length : Int) + (l1.length : Int))) then (if (wrap64 ((l0.length : Int) + (l1.length : Int)) : Int).toNat ≤ 35184372088832 then (spec_Mul.l0 k l1 (List.replicate (wrap64 ((l0.length : Int) + (l1.length : Int)) : Int).toNat 0) l0 (l0.length : Int) 0) else (none)) else (none)
set_option maxHeartbeats 8000000 in
set_option maxRecDepth 100000 in
theorem spec_Mul.calls (k : Nat) (A0 : Option Addr) (c0 : Nat) (l0 : List Int) (A1 : Option Addr) (c1 : Nat) (l1 : List Int) (r : List Int) (w : World) (hr0 : Kd.C (Kd.int .i64) w A0 l0.length l0) (hc0 : l0.length ≤ c0) (hr1 : Kd.C (Kd.int .i64) w A1 l1.length l1) (hc1 : l1.length ≤ c1) (h : spec_Mul.f k l0 l1 = some r) :
 Calls Tryz.prog 20 #[.slice A0 l0.length c0, .slice A1 l1.length c1] w fun e w' => ∃ v0_ : Value, e = .returned (v0_) ∧ Kd.V (Kd.int .i64) 3 w' w.heap.size (fun k_ => (w.heap.size ≤ k_)) v0_ r ∧ Below w.heap.size w w' := by
 have HR0 := Aside0.mk hr0;have HC0 := Aside0.mk hc0;clear hr0 hc0;have HR1 := Aside0.mk hr1;have HC1 := Aside0.mk hc1;clear hr1 hc1;have HB := Aside0.mk (Below.refl w.heap.size w);have H : (if 0 ≤ (wrap64 ((l0.length : Int) + (l1.length : Int))) then (if (wrap64 ((l0.length : Int) + (l1.length : Int)) : Int).toNat ≤ 35184372088832 then (spec_Mul.l0 k l1 (List.replicate (wrap64 ((l0.length : Int) + (l1.length : Int)) : Int).toNat 0) l0 (l0.length : Int) 0) else (none)) else (none)) = some r := h;clear h;obtain ⟨ji3, hji3⟩ : ∃ j_ : Int, (wrap64 ((l0.length : Int) + (l1.length : Int))) = j_ := ⟨_, rfl⟩
 replace H : (if 0 ≤ (ji3) then (if (ji3 : Int).toNat ≤ 35184372088832 then (spec_Mul.l0 k l1 (List.replicate (ji3 : Int).toNat 0) l0 (l0.length : Int) 0) else (none)) else (none)) = some r := by first | (rw [hji3] at H; exact H) | (simp only [hji3] at H ⊢; exact H)
 have hji3w : (IntKind.i64.wrap ((l0.length : Int) + (l1.length : Int))) = ji3 := (i64_w _).trans hji3;by_cases c4 : 0 ≤ (ji3)
 · rw [if_pos c4] at H;have c4b0 := eq_true c4;have c4b1 : decide (0 ≤ (ji3)) = true := decide_eq_true c4;clear c4;by_cases c5 : (ji3 : Int).toNat ≤ 35184372088832
   · rw [if_pos c5] at H;have c5b0 := eq_true c5;have c5b1 : decide ((ji3 : Int).toNat ≤ 35184372088832) = true := decide_eq_true c5;clear c5;obtain ⟨y131, hy131⟩ : ∃ y_ : List Int, y_ = (List.replicate (ji3 : Int).toNat 0) := ⟨_, rfl⟩
     replace H : (spec_Mul.l0 k l1 y131 l0 (l0.length : Int) 0) = some r := by first | (rw [hy131]; exact H) | (have H2_ := (Option.bind_some _ _).symm.trans H; rw [hy131]; exact H2_) | exact H
     have Ny131 := Aside0.mk hy131;clear hy131;have H' := Aside0.mk H;clear H;go_enter Tryz.func20, Tryz.ntmps20;go_wp2_with (first | ((with_reducible refine gate_dst (N := 16) rfl ?_); refine Kd.R_make (Kd.int .i64) _ 3 rfl (N := 16) rfl 23 _ _ rfl ji3 rfl rfl Tryz.underlying23 (.int .i64 0) 8 info3 rfl (by decide) (by omega) 0 (ok := fun _ => True) (okp := fun _ => True) rfl (fun _ hk => hk) trivial (of_decide_eq_true asq) (Nat.le_trans (Nat.mul_le_mul_right _ (of_decide_eq_true asq : ji3.toNat ≤ 35184372088832)) (by omega)) (Below.refl _ _) (Nat.le_refl _) ?_; intro v132 w6 ho7 hb hg_ hnew_; clear hg_ hnew_; (first | rw [← Ny131.out] at ho7 | (simp only [Int.reduceToNat] at ho7; rw [← Ny131.out] at ho7)); have n0_ := Aside0.mk (Kd.R_lower (Kd.R_newM (M := fun k_ => (w.heap.size ≤ k_)) ho7 (below_size HBq) (fun k_ h_ => h_)) (below_size HBq)); have n1_ := Aside0.mk (below_step HBq hb); clear HB; have HO133 := n0_; have HB := n1_; clear n0_ n1_; clear hb ho7));go_loopg [19] k (fun kq v19 w' => ∃ (x5_1 : List Int) (x19_1 : Int), v19 = .int .i64 x19_1 ∧ Aside0 (spec_Mul.l0 kq l1 x5_1 l0 (l0.length : Int) x19_1 = some r) ∧ Aside0 (kq ≤ k) ∧ Aside0 (Kd.R (Kd.int .i64) 3 w' w.heap.size (fun k_ => (w.heap.size ≤ k_)) v132 x5_1) ∧ Aside0 (Below w.heap.size w w'));case atStart => exact ⟨(y131), (0), rfq, H', ⟨Nat.le_refl _⟩, ⟨by (with_reducible repeat (first | apply Kd.R_alloc | apply Kd.R_drewN | apply Kd.R_drew)); exact Kd.R_mono HO133.out (fun _ hk => hk.1)⟩, ⟨HBq⟩⟩
     case round =>
      clear H';try clear c1
      try clear c2
      try clear p2
      try clear c4
      try clear c4b0
      try clear c4b1
      try clear c5
      try clear c5b0
      try clear c5b1
      try clear p6
      obtain ⟨x5_1, x19_1, rfl, HA, HK1, HO_5, HB⟩ := hrel;cases gk with
      | zero => exact absurd HA.out (by simp [spec_Mul.l0])
      | succ k1 =>
       have H := HA.out;clear HA;simp only [spec_Mul.l0] at H;by_cases c8 : x19_1 < (l0.length : Int)
       · rw [if_pos c8] at H;have c8b0 : decide (x19_1 < (l0.length : Int)) = true := decide_eq_true c8;clear c8;by_cases c9 : 0 ≤ x19_1
         · rw [if_pos c9] at H;have c9b0 : decide (0 ≤ x19_1) = true := decide_eq_true c9;clear c9;by_cases c10 : x19_1 < (l0.length : Int)
           · rw [if_pos c10] at H;have c10b0 : decide (x19_1 < (l0.length : Int)) = true := decide_eq_true c10;clear c10;have H' := Aside0.mk H;clear H;have p137 : 0 ≤ (x19_1 : Int) := of_decide_eq_true asq;have q137 : x19_1 < (l0.length : Int) := of_decide_eq_true asq;obtain ⟨ad137, e137, hx137_0⟩ := Kd.at_int HR0.out x19_1 p137 q137;cases e137;replace hx137_0 := (HB.out.cell (World.block_lt_of_cell? w _ hx137_0)).trans hx137_0;replace p137 := eq_true p137;replace q137 := eq_true q137;go_wp2
             go_loopg [8, 26] k1 (fun kq v8 v26 w' => ∃ (x5_2 : List Int) (x8_2 : Int) (x26_2 : Int), v8 = .int .i64 x8_2 ∧ v26 = .int .i64 x26_2 ∧ Aside0 (spec_Mul.l1 kq l1 x5_2 x19_1 (rd l0 x19_1) x8_2 l0 (l0.length : Int) x19_1 l1 (l1.length : Int) x26_2 = some r) ∧ Aside0 (kq ≤ k1) ∧ Aside0 (Kd.R (Kd.int .i64) 3 w' w.heap.size (fun k_ => (w.heap.size ≤ k_)) v132 x5_2) ∧ Aside0 (Below w.heap.size w w'));case atStart => exact ⟨(x5_1), (0), (0), rfq, rfq, H', ⟨Nat.le_refl _⟩, ⟨RAq HO_5.out⟩, ⟨HBq⟩⟩
             case round =>
              clear H';try clear c1
              try clear p1
              try clear q1
              try clear hx1
              try clear c2
              try clear p2
              try clear c4
              try clear c4b0
              try clear c4b1
              try clear c5
              try clear c5b0
              try clear c5b1
              try clear p6
              try clear c8
              try clear c8b0
              try clear c9
              try clear c9b0
              try clear c10
              try clear c10b0
              try clear hx137_0
              try clear p137
              try clear p2
              try clear p6
              try clear q137
              obtain ⟨x5_2, x8_2, x26_2, rfl, rfl, HA, HK2, HO_5, HB⟩ := hrel;cases gk with
              | zero => exact absurd HA.out (by simp [spec_Mul.l1])
              | succ k2 =>
               have H := HA.out;clear HA;simp only [spec_Mul.l1] at H;by_cases c11 : x26_2 < (l1.length : Int)
               · rw [if_pos c11] at H;have c11b0 : decide (x26_2 < (l1.length : Int)) = true := decide_eq_true c11;clear c11;by_cases c12 : 0 ≤ x26_2
                 · rw [if_pos c12] at H;have c12b0 : decide (0 ≤ x26_2) = true := decide_eq_true c12;clear c12;by_cases c13 : x26_2 < (l1.length : Int)
                   · rw [if_pos c13] at H;have c13b0 : decide (x26_2 < (l1.length : Int)) = true := decide_eq_true c13;clear c13;obtain ⟨ji14, hji14⟩ : ∃ j_ : Int, (wrap64 (x19_1 + x26_2)) = j_ := ⟨_, rfl⟩
                     replace H : (if 0 ≤ (ji14) then (if (ji14) < (x5_2.length : Int) then (spec_Mul.l1 k2 l1 (x5_2.set ((ji14) : Int).toNat (Int.tmod (wrap64 (x8_2 + (wrap64 ((rd x5_2 (ji14)) + (wrap64 ((rd l0 x19_1) * (rd l1 x26_2))))))) 65536)) x19_1 (rd l0 x19_1) (wrap64 (Int.tdiv (wrap64 (x8_2 + (wrap64 ((rd x5_2 (ji14)) + (wrap64 ((rd l0 x19_1) * (rd l1 x26_2))))))) 65536)) l0 (l0.length : Int) x19_1 l1 (l1.length : Int) (wrap64 (x26_2 + 1))) else (none)) else (none)) = some r := by first | (rw [hji14] at H; exact H) | (simp only [hji14] at H ⊢; exact H)
                     have hji14w : (IntKind.i64.wrap (x19_1 + x26_2)) = ji14 := (i64_w _).trans hji14;by_cases c15 : 0 ≤ (ji14)
                     · rw [if_pos c15] at H;have c15b0 : decide (0 ≤ (ji14)) = true := decide_eq_true c15;clear c15;by_cases c16 : (ji14) < (x5_2.length : Int)
                       · rw [if_pos c16] at H;have c16b0 : decide ((ji14) < (x5_2.length : Int)) = true := decide_eq_true c16;clear c16;obtain ⟨y140, hy140⟩ : ∃ y_ : List Int, y_ = (x5_2.set ((ji14) : Int).toNat (Int.tmod (wrap64 (x8_2 + (wrap64 ((rd x5_2 (ji14)) + (wrap64 ((rd l0 x19_1) * (rd l1 x26_2))))))) 65536)) := ⟨_, rfl⟩
                         replace H : (spec_Mul.l1 k2 l1 y140 x19_1 (rd l0 x19_1) (wrap64 (Int.tdiv (wrap64 (x8_2 + (wrap64 ((rd x5_2 (ji14)) + (wrap64 ((rd l0 x19_1) * (rd l1 x26_2))))))) 65536)) l0 (l0.length : Int) x19_1 l1 (l1.length : Int) (wrap64 (x26_2 + 1))) = some r := by first | (rw [hy140]; exact H) | (have H2_ := (Option.bind_some _ _).symm.trans H; rw [hy140]; exact H2_) | exact H
                         have Ny140 := Aside0.mk hy140;clear hy140;have H' := Aside0.mk H;clear H;have p138 : 0 ≤ (x26_2 : Int) := of_decide_eq_true asq;have q138 : x26_2 < (l1.length : Int) := of_decide_eq_true asq;obtain ⟨ad138, e138, hx138_0⟩ := Kd.at_int HR1.out x26_2 p138 q138;cases e138;replace hx138_0 := (HB.out.cell (World.block_lt_of_cell? w _ hx138_0)).trans hx138_0;replace p138 := eq_true p138;replace q138 := eq_true q138;obtain ⟨Ao18, co18, eo18⟩ := Kd.R_slice HO_5.out;subst eo18;have p139 : 0 ≤ ((ji14) : Int) := of_decide_eq_true asq;have q139 : (ji14) < (x5_2.length : Int) := of_decide_eq_true asq;obtain ⟨ad139, e139, hx139_0⟩ := Kd.at_int (Kd.R_reads' HO_5.out).2.2 (ji14) p139 q139;cases e139;replace p139 := eq_true p139;replace q139 := eq_true q139;have p17 : 0 ≤ ((ji14) : Int) := of_decide_eq_true asq;have q17 : ((ji14) : Int) < ((x5_2.length : Int) : Int) := of_decide_eq_true asq;obtain ⟨go17, co17, eo17, gb17, gl17, cl17, HG17⟩ := Kd.R_form HO_5.out (by omega);(first | cases eo17 | (injection eo17 with ea_ en_ ec_; (first | subst ea_ | (injection ea_ with ea_; subst ea_)); subst ec_; clear en_));have GB17 := Aside0.mk gb17;have GG17 := Aside0.mk HG17;clear gb17 gl17 HG17;(first | simp only [add_plain] at hx139_0 | skip);obtain ⟨hx17_0, hf17_0⟩ := Kd.R_celln 0 HO_5.out ((ji14) : Int) p17 q17;replace p17 := eq_true p17;replace q17 := eq_true q17;have HP19 := Kd.R_putg HO_5.out ((ji14) : Int) (Int.tmod (wrap64 (x8_2 + (wrap64 ((rd x5_2 (ji14)) + (wrap64 ((rd l0 x19_1) * (rd l1 x26_2))))))) 65536);go_wp2_with (first | ((with_reducible refine gate_store (t := 3) (p := 49) rfl ?_); refine store_event (t := 3) (p := 49) (v := ?vo_w20) (w1 := (wr.setCell ⟨go17, ((ji14) : Int).toNat, none⟩ (.int .i64 (Int.tmod (wrap64 (x8_2 + (wrap64 ((rd x5_2 (ji14)) + (wrap64 ((rd l0 x19_1) * (rd l1 x26_2))))))) 65536)))) ?hg ?ho ?hn ?hr ?_; (case ho => rfl); (case hg => rfl); (case hn => rfl); (case hr => first | (go_simp; done) | (go_simp; rfl)); intro w20 hw; have hg : wr.grownBy w20 (some go17) := (by rw [hw]; exact HP19.2); have hp_ : Kd.R (Kd.int .i64) 3 w20 w.heap.size (fun k_ => (w.heap.size ≤ k_)) (.slice (some ⟨go17, 0, none⟩) x5_2.length co18) y140 := (by rw [hw, Ny140.out]; exact HP19.1); clear HP19; have n0_ := Aside0.mk (hp_); have n1_ := Aside0.mk ((by rw [hw]; exact below_set (HB.out) GB17.out : Below w.heap.size w w20)); clear HO_5; clear HB; have HO_5 := n0_; have HB := n1_; clear n0_ n1_; clear hg hw hp_));go_roundg k2;case measure => have := HK1.out; have := HK2.out; omega
                         case rel => exact ⟨(y140), (wrap64 (Int.tdiv (wrap64 (x8_2 + (wrap64 ((rd x5_2 (ji14)) + (wrap64 ((rd l0 x19_1) * (rd l1 x26_2))))))) 65536)), (wrap64 (x26_2 + 1)), (by first | rfl | (simp; done) | (simp only [← hji14] <;> (first | rfl | simp)) | (simp [*]; done)), rfq, H', ⟨by have := HK1.out; have := HK2.out; omega⟩, ⟨RAq HO_5.out⟩, ⟨HBq⟩⟩
                       · rw [if_neg c16] at H;exact absurd H (by simp)
                     · rw [if_neg c15] at H;exact absurd H (by simp)
                   · rw [if_neg c13] at H;exact absurd H (by simp)
                 · rw [if_neg c12] at H;exact absurd H (by simp)
               · rw [if_neg c11] at H;have c11b0 : decide (x26_2 < (l1.length : Int)) = false := decide_eq_false c11;clear c11;obtain ⟨ji21, hji21⟩ : ∃ j_ : Int, (wrap64 (x19_1 + (l1.length : Int))) = j_ := ⟨_, rfl⟩
                 replace H : (if 0 ≤ (ji21) then (if (ji21) < (x5_2.length : Int) then (spec_Mul.l0 k2 l1 (x5_2.set ((ji21) : Int).toNat x8_2) l0 (l0.length : Int) (wrap64 (x19_1 + 1))) else (none)) else (none)) = some r := by first | (rw [hji21] at H; exact H) | (simp only [hji21] at H ⊢; exact H)
                 have hji21w : (IntKind.i64.wrap (x19_1 + (l1.length : Int))) = ji21 := (i64_w _).trans hji21;by_cases c22 : 0 ≤ (ji21)
                 · rw [if_pos c22] at H;have c22b0 : decide (0 ≤ (ji21)) = true := decide_eq_true c22;clear c22;by_cases c23 : (ji21) < (x5_2.length : Int)
                   · rw [if_pos c23] at H;have c23b0 : decide ((ji21) < (x5_2.length : Int)) = true := decide_eq_true c23;clear c23;obtain ⟨y141, hy141⟩ : ∃ y_ : List Int, y_ = (x5_2.set ((ji21) : Int).toNat x8_2) := ⟨_, rfl⟩
                     replace H : (spec_Mul.l0 k2 l1 y141 l0 (l0.length : Int) (wrap64 (x19_1 + 1))) = some r := by first | (rw [hy141]; exact H) | (have H2_ := (Option.bind_some _ _).symm.trans H; rw [hy141]; exact H2_) | exact H
                     have Ny141 := Aside0.mk hy141;clear hy141;have H' := Aside0.mk H;clear H;have p24 : 0 ≤ ((ji21) : Int) := of_decide_eq_true asq;have q24 : ((ji21) : Int) < ((x5_2.length : Int) : Int) := of_decide_eq_true asq;obtain ⟨go24, co24, eo24, gb24, gl24, cl24, HG24⟩ := Kd.R_form HO_5.out (by omega);(first | cases eo24 | (injection eo24 with ea_ en_ ec_; (first | subst ea_ | (injection ea_ with ea_; subst ea_)); subst ec_; clear en_));have GB24 := Aside0.mk gb24;have GG24 := Aside0.mk HG24;clear gb24 gl24 HG24;obtain ⟨hx24_0, hf24_0⟩ := Kd.R_celln 0 HO_5.out ((ji21) : Int) p24 q24;replace p24 := eq_true p24;replace q24 := eq_true q24;have HP25 := Kd.R_putg HO_5.out ((ji21) : Int) x8_2;go_wp2_with (first | ((with_reducible refine gate_store (t := 3) (p := 59) rfl ?_); refine store_event (t := 3) (p := 59) (v := ?vo_w26) (w1 := (wr.setCell ⟨go24, ((ji21) : Int).toNat, none⟩ (.int .i64 x8_2))) ?hg ?ho ?hn ?hr ?_; (case ho => rfl); (case hg => rfl); (case hn => rfl); (case hr => first | (go_simp; done) | (go_simp; rfl)); intro w26 hw; have hg : wr.grownBy w26 (some go24) := (by rw [hw]; exact HP25.2); have hp_ : Kd.R (Kd.int .i64) 3 w26 w.heap.size (fun k_ => (w.heap.size ≤ k_)) (.slice (some ⟨go24, 0, none⟩) x5_2.length co24) y141 := (by rw [hw, Ny141.out]; exact HP25.1); clear HP25; have n0_ := Aside0.mk (hp_); have n1_ := Aside0.mk ((by rw [hw]; exact below_set (HB.out) GB24.out : Below w.heap.size w w26)); clear HO_5; clear HB; have HO_5 := n0_; have HB := n1_; clear n0_ n1_; clear hg hw hp_));go_roundg k2;case measure => have := HK1.out; have := HK2.out; omega
                     case rel => exact ⟨(y141), (wrap64 (x19_1 + 1)), rfq, H', ⟨by have := HK1.out; have := HK2.out; omega⟩, ⟨RAq HO_5.out⟩, ⟨HBq⟩⟩
                   · rw [if_neg c23] at H;exact absurd H (by simp)
                 · rw [if_neg c22] at H;exact absurd H (by simp)
           · rw [if_neg c10] at H;exact absurd H (by simp)
         · rw [if_neg c9] at H;exact absurd H (by simp)
       · rw [if_neg c8] at H;have c8b0 : decide (x19_1 < (l0.length : Int)) = false := decide_eq_false c8;clear c8;replace H := Option.bind_eq_some_iff.mp H;obtain ⟨t134, A270, H⟩ := H;replace H : (some t134) = some r := H;have A27 := Aside0.mk A270;clear A270;obtain rfl := Option.some.inj H;obtain ⟨Ao28, co28, eo28⟩ := Kd.R_slice HO_5.out;subst eo28;go_wp2_with (first | ((with_reducible refine gate_callee (f := 36) rfl ?_); refine goesL_ (some 62) rfl rfl Tryz.func36 (by kernel_rfl) rfl #[.slice Ao28 x5_1.length co28] rfl (by (try simp only [List.map_toArray, List.map_cons, List.map_nil]); first | done | rfl | (simp only [List.length_drop, List.length_take]; rfl)) ?_; (with_reducible refine (spec_trim.calls k1 (fun k_ => some k_ = (.slice Ao28 x5_1.length co28 : Value).ownBlock) _ _ x5_1 t134 _ ?side1 A27.out).mono ?_); (case side1 => exact Kd.R_V (Kd.R_tight rfl (HO_5.out))); rintro e w29 ⟨v135, rfl, ho0, hb⟩; refine ⟨_, rfl, ?_⟩; have n0_ := Aside0.mk (Kd.R_below (RAq HO_5.out) hb); have n1_ := Aside0.mk (Kd.V_lower (Kd.V_mono (ok' := fun k_ => (w.heap.size ≤ k_)) ho0 (fun k_ hk_ => Or.elim hk_ (fun hs_ => ((HO_5.out).1 k_ hs_.symm)) (fun hn_ => (Nat.le_trans (below_size HBq) hn_)))) (below_size HBq)); have n2_ := Aside0.mk (below_step HBq hb); clear HO_5; clear HB; have HO_5 := n0_; have HO136 := n1_; have HB := n2_; clear n0_ n1_ n2_; (try clear hb); (try clear hb2); (try clear hk); (try clear hi); (try clear ho0)));go_ret;exact ⟨_, by first | rfl | (simp [errW_none, errW_some] <;> rfl) | (simp only [← hji3]; first | rfl | (simp [errW_none, errW_some] <;> rfl)) | (simp [*, errW_none, errW_some] <;> rfl), by (with_reducible repeat (first | apply Kd.V_alloc | apply Kd.V_drewN | apply Kd.V_drew)); exact HO136.out, HBq⟩
   · rw [if_neg c5] at H;exact absurd H (by simp)
 · rw [if_neg c4] at H;exact absurd H (by simp)
def spec_Small.l0 : Nat → Int → List Int → Option (List Int)
 | 0, _, _ => none
 | k + 1, x0, x3 => if x0 > 0 then (if x3.length < 17592186044416 then (spec_Small.l0 k (wrap64 (Int.tdiv x0 65536)) (x3 ++ [Int.tmod x0 65536])) else (none)) else (some x3)
def spec_Small.f (k : Nat) (a0 : Int) : Option (List Int) := spec_Small.l0 k a0 (([] : List Int))
set_option maxHeartbeats 8000000 in
set_option maxRecDepth 100000 in
theorem spec_Small.calls (k : Nat) (a0 : Int) (r : List Int) (w : World) (h : spec_Small.f k a0 = some r) :
 Calls Tryz.prog 21 #[.int .i64 a0] w fun e w' => ∃ v0_ : Value, e = .returned (v0_) ∧ Kd.R (Kd.int .i64) 3 w' w.heap.size (fun _ => True) v0_ r ∧ Below w.heap.size w w' := by
 have HB := Aside0.mk (Below.refl w.heap.size w);have H : (spec_Small.l0 k a0 (([] : List Int))) = some r := h;clear h;obtain ⟨y142, hy142⟩ : ∃ y_ : List Int, y_ = (([] : List Int)) := ⟨_, rfl⟩
 replace H : (spec_Small.l0 k a0 y142) = some r := by first | (rw [hy142]; exact H) | (have H2_ := (Option.bind_some _ _).symm.trans H; rw [hy142]; exact H2_) | exact H
 have Ny142 := Aside0.mk hy142;clear hy142;have H' := Aside0.mk H;clear H;go_enter Tryz.func21, Tryz.ntmps21;go_wp2_with (first | ((with_reducible refine gate_dst (N := 4) rfl ?_); refine Kd.R_lit (Kd.int .i64) _ 3 ?hg (N := 4) ?hd (xs := ([] : List Int)) (inner := []) (ok := fun _ => True) (okp := fun _ => True) ?hr ?hp (fun _ hk => hk) trivial (Below.refl _ _) (Nat.le_refl _) (by simp) ?_; (case hd => rfl); (case hg => rfl); (case hr => first | (go_simp; done) | (go_simp; rfl)); (case hp => exact (Reps.none _ _)); intro v143 w2 ho3 hb hg_ hnew_; clear hg_ hnew_; (first | rw [← Ny142.out] at ho3 | (simp only [Int.reduceToNat] at ho3; rw [← Ny142.out] at ho3)); have n0_ := Aside0.mk (Kd.R_lower ho3 (below_size HBq)); have n1_ := Aside0.mk (below_step HBq hb); clear HB; have HO144 := n0_; have HB := n1_; clear n0_ n1_; clear hb ho3));go_loopg [0, 3] k (fun kq v0 v3 w' => ∃ (x0_1 : Int) (x3_1 : List Int), v0 = .int .i64 x0_1 ∧ Aside0 (spec_Small.l0 kq x0_1 x3_1 = some r) ∧ Aside0 (kq ≤ k) ∧ Aside0 (Kd.R (Kd.int .i64) 3 w' w.heap.size (fun _ => True) v3 x3_1) ∧ Aside0 (Below w.heap.size w w'));case atStart => exact ⟨(a0), (y142), rfq, H', ⟨Nat.le_refl _⟩, ⟨RAq HO144.out⟩, ⟨HBq⟩⟩
 case round =>
  clear H';try clear c2
  try clear p2
  obtain ⟨x0_1, x3_1, rfl, HA, HK1, HO_3, HB⟩ := hrel;cases gk with
  | zero => exact absurd HA.out (by simp [spec_Small.l0])
  | succ k1 =>
   have H := HA.out;clear HA;simp only [spec_Small.l0] at H;by_cases c4 : x0_1 > 0
   · rw [if_pos c4] at H;have c4b0 : decide (0 < x0_1) = true := decide_eq_true c4;clear c4;by_cases c5 : x3_1.length < 17592186044416
     · rw [if_pos c5] at H;have LMc5 := Aside0.mk c5;clear c5;obtain ⟨y145, hy145⟩ : ∃ y_ : List Int, y_ = (x3_1 ++ [Int.tmod x0_1 65536]) := ⟨_, rfl⟩
       replace H : (spec_Small.l0 k1 (wrap64 (Int.tdiv x0_1 65536)) y145) = some r := by first | (rw [hy145]; exact H) | (have H2_ := (Option.bind_some _ _).symm.trans H; rw [hy145]; exact H2_) | exact H
       have Ny145 := Aside0.mk hy145;clear hy145;have H' := Aside0.mk H;clear H;go_wp2_with (first | ((with_reducible refine gate_builtin (b := .append) (xs := #[.tmp 9, .tmp 12]) rfl ?_); at_builtin; refine Kd.R_append (Kd.int .i64) (w0 := w) w.heap.size rfl (.tmp 9) (.tmp 12) 23 3 (.int .i64 0) 8 rfl Tryz.underlying23 info3 rfl (by decide) (by omega) u3 x3_1 (Int.tmod x0_1 65536) [.int .i64 (Int.tmod x0_1 65536)] (fun _ => True) (fun _ => False) rfl rfl ?aP (fun _ hk => hk.elim) ?aF ?aO ?aB ?aS ?aL ?_; (case aP => exact rfl); (case aB => exact HBq); (case aF => exact (fun _ _ => trivial)); (case aO => exact (RAq HO_3.out)); (case aS => exact (below_size HBq)); (case aL => have := LMc5.out; omega); intro v146 w6 ho hb hg hat; rw [← Ny145.out] at ho; have n0_ := Aside0.mk (hb); have n1_ := Aside0.mk (ho); clear HB; clear HO_3; have HB := n0_; have HO147 := n1_; clear n0_ n1_; clear ho hb hg hat));go_roundg k1;case measure => have := HK1.out; omega
       case rel => exact ⟨(wrap64 (Int.tdiv x0_1 65536)), (y145), rfq, H', ⟨by have := HK1.out; omega⟩, ⟨RAq HO147.out⟩, ⟨HBq⟩⟩
     · rw [if_neg c5] at H;exact absurd H (by simp)
   · rw [if_neg c4] at H;have c4b0 : decide (0 < x0_1) = false := decide_eq_false c4;clear c4;obtain rfl := Option.some.inj H;go_wp2
     go_ret;exact ⟨_, by first | rfl | (simp [errW_none, errW_some] <;> rfl) | (simp [*, errW_none, errW_some] <;> rfl), by (with_reducible repeat (first | apply Kd.R_alloc | apply Kd.R_drewN | apply Kd.R_drew)); exact HO_3.out, HBq⟩
mutual
def spec_Of.l0 : Nat → List Int → List Int → Int → Int → Option (List Int)
 | 0, _, _, _, _ => none
 | k + 1, x3, x8, x9, x10 => if x10 < x9 then (if 0 ≤ x10 then (if x10 < (x8.length : Int) then (spec_Of.l1 k x3 (rd x8 x10) 0 x8 x9 x10) else (none)) else (none)) else ((spec_trim.f k x3).bind fun t322 => (some t322))
def spec_Of.l1 : Nat → List Int → Int → Int → List Int → Int → Int → Option (List Int)
 | 0, _, _, _, _, _, _ => none
 | k + 1, x3, x5, x6, x8, x9, x10 => if x6 < 4 then (if 0 ≤ (wrap64 (16 * x6)) then (if x3.length < 17592186044416 then (spec_Of.l1 k (x3 ++ [wrap64 (Go.bits .and .u64 (shr .u64 x5 (wrap64 (16 * x6))) 65535)]) x5 (wrap64 (x6 + 1)) x8 x9 x10) else (none)) else (none)) else (spec_Of.l0 k x3 x8 x9 (wrap64 (x10 + 1)))
end
def spec_Of.f (k : Nat) (l0 : List Int) : Option (List Int) := spec_Of.l0 k (([] : List Int)) l0 (l0.length : Int) 0
set_option maxHeartbeats 8000000 in
set_option maxRecDepth 100000 in
theorem spec_Of.calls (k : Nat) (A0 : Option Addr) (c0 : Nat) (l0 : List Int) (r : List Int) (w : World) (hr0 : Kd.C (Kd.int .u64) w A0 l0.length l0) (hc0 : l0.length ≤ c0) (h : spec_Of.f k l0 = some r) :
 Calls Tryz.prog 26 #[.slice A0 l0.length c0] w fun e w' => ∃ v0_ : Value, e = .returned (v0_) ∧ Kd.V (Kd.int .i64) 3 w' w.heap.size (fun k_ => (w.heap.size ≤ k_)) v0_ r ∧ Below w.heap.size w w' := by
 have HR0 := Aside0.mk hr0;have HC0 := Aside0.mk hc0;clear hr0 hc0;have HB := Aside0.mk (Below.refl w.heap.size w);have H : (spec_Of.l0 k (([] : List Int)) l0 (l0.length : Int) 0) = some r := h;clear h;obtain ⟨y319, hy319⟩ : ∃ y_ : List Int, y_ = (([] : List Int)) := ⟨_, rfl⟩
 replace H : (spec_Of.l0 k y319 l0 (l0.length : Int) 0) = some r := by first | (rw [hy319]; exact H) | (have H2_ := (Option.bind_some _ _).symm.trans H; rw [hy319]; exact H2_) | exact H
 have Ny319 := Aside0.mk hy319;clear hy319;have H' := Aside0.mk H;clear H;go_enter Tryz.func26, Tryz.ntmps26;go_wp2_with (first | ((with_reducible refine gate_dst (N := 7) rfl ?_); refine Kd.R_lit (Kd.int .i64) _ 3 ?hg (N := 7) ?hd (xs := ([] : List Int)) (inner := []) (ok := fun _ => True) (okp := fun _ => True) ?hr ?hp (fun _ hk => hk) trivial (Below.refl _ _) (Nat.le_refl _) (by simp) ?_; (case hd => rfl); (case hg => rfl); (case hr => first | (go_simp; done) | (go_simp; rfl)); (case hp => exact (Reps.none _ _)); intro v320 w2 ho3 hb hg_ hnew_; clear hg_ hnew_; (first | rw [← Ny319.out] at ho3 | (simp only [Int.reduceToNat] at ho3; rw [← Ny319.out] at ho3)); have n0_ := Aside0.mk (Kd.R_lower (Kd.R_newM (M := fun k_ => (w.heap.size ≤ k_)) ho3 (below_size HBq) (fun k_ h_ => h_)) (below_size HBq)); have n1_ := Aside0.mk (below_step HBq hb); clear HB; have HO321 := n0_; have HB := n1_; clear n0_ n1_; clear hb ho3));go_loopg [3, 10] k (fun kq v3 v10 w' => ∃ (x3_1 : List Int) (x10_1 : Int), v10 = .int .i64 x10_1 ∧ Aside0 (spec_Of.l0 kq x3_1 l0 (l0.length : Int) x10_1 = some r) ∧ Aside0 (kq ≤ k) ∧ Aside0 (Kd.R (Kd.int .i64) 3 w' w.heap.size (fun k_ => (w.heap.size ≤ k_)) v3 x3_1) ∧ Aside0 (Below w.heap.size w w'));case atStart => exact ⟨(y319), (0), rfq, H', ⟨Nat.le_refl _⟩, ⟨by (with_reducible repeat (first | apply Kd.R_alloc | apply Kd.R_drewN | apply Kd.R_drew)); exact Kd.R_mono HO321.out (fun _ hk => hk.1)⟩, ⟨HBq⟩⟩
 case round =>
  clear H';try clear c2
  try clear p2
  obtain ⟨x3_1, x10_1, rfl, HA, HK1, HO_3, HB⟩ := hrel;cases gk with
  | zero => exact absurd HA.out (by simp [spec_Of.l0])
  | succ k1 =>
   have H := HA.out;clear HA;simp only [spec_Of.l0] at H;by_cases c4 : x10_1 < (l0.length : Int)
   · rw [if_pos c4] at H;have c4b0 : decide (x10_1 < (l0.length : Int)) = true := decide_eq_true c4;clear c4;by_cases c5 : 0 ≤ x10_1
     · rw [if_pos c5] at H;have c5b0 : decide (0 ≤ x10_1) = true := decide_eq_true c5;clear c5;by_cases c6 : x10_1 < (l0.length : Int)
       · rw [if_pos c6] at H;have c6b0 : decide (x10_1 < (l0.length : Int)) = true := decide_eq_true c6;clear c6;have H' := Aside0.mk H;clear H;have p325 : 0 ≤ (x10_1 : Int) := of_decide_eq_true asq;have q325 : x10_1 < (l0.length : Int) := of_decide_eq_true asq;obtain ⟨ad325, e325, hx325_0⟩ := Kd.at_int HR0.out x10_1 p325 q325;cases e325;replace hx325_0 := (HB.out.cell (World.block_lt_of_cell? w _ hx325_0)).trans hx325_0;replace p325 := eq_true p325;replace q325 := eq_true q325;go_wp2
         go_loopg [3, 6] k1 (fun kq v3 v6 w' => ∃ (x3_2 : List Int) (x6_2 : Int), v6 = .int .i64 x6_2 ∧ Aside0 (spec_Of.l1 kq x3_2 (rd l0 x10_1) x6_2 l0 (l0.length : Int) x10_1 = some r) ∧ Aside0 (kq ≤ k1) ∧ Aside0 (Kd.R (Kd.int .i64) 3 w' w.heap.size (fun k_ => (w.heap.size ≤ k_)) v3 x3_2) ∧ Aside0 (Below w.heap.size w w'));case atStart => exact ⟨(x3_1), (0), rfq, H', ⟨Nat.le_refl _⟩, ⟨RAq HO_3.out⟩, ⟨HBq⟩⟩
         case round =>
          clear H';try clear c2
          try clear p2
          try clear p3
          try clear q3
          try clear hx3
          try clear c4
          try clear c4b0
          try clear c5
          try clear c5b0
          try clear c6
          try clear c6b0
          try clear hx325_0
          try clear p2
          try clear p325
          try clear q325
          obtain ⟨x3_2, x6_2, rfl, HA, HK2, HO_3, HB⟩ := hrel;cases gk with
          | zero => exact absurd HA.out (by simp [spec_Of.l1])
          | succ k2 =>
           have H := HA.out;clear HA;simp only [spec_Of.l1] at H;by_cases c7 : x6_2 < 4
           · rw [if_pos c7] at H;have c7b0 : decide (x6_2 < 4) = true := decide_eq_true c7;clear c7;obtain ⟨ji8, hji8⟩ : ∃ j_ : Int, (wrap64 (16 * x6_2)) = j_ := ⟨_, rfl⟩
             replace H : (if 0 ≤ (ji8) then (if x3_2.length < 17592186044416 then (spec_Of.l1 k2 (x3_2 ++ [wrap64 (Go.bits .and .u64 (shr .u64 (rd l0 x10_1) (ji8)) 65535)]) (rd l0 x10_1) (wrap64 (x6_2 + 1)) l0 (l0.length : Int) x10_1) else (none)) else (none)) = some r := by first | (rw [hji8] at H; exact H) | (simp only [hji8] at H ⊢; exact H)
             have hji8w : (IntKind.i64.wrap (16 * x6_2)) = ji8 := (i64_w _).trans hji8;by_cases c9 : 0 ≤ (ji8)
             · rw [if_pos c9] at H;have c9b0 := eq_true c9;have c9b1 : decide (0 ≤ (ji8)) = true := decide_eq_true c9;clear c9;obtain ⟨ji10, hji10⟩ : ∃ j_ : Int, (shr .u64 (rd l0 x10_1) (ji8)) = j_ := ⟨_, rfl⟩
               replace H : (if x3_2.length < 17592186044416 then (spec_Of.l1 k2 (x3_2 ++ [wrap64 (Go.bits .and .u64 (ji10) 65535)]) (rd l0 x10_1) (wrap64 (x6_2 + 1)) l0 (l0.length : Int) x10_1) else (none)) = some r := by first | (rw [hji10] at H; exact H) | (simp only [hji10] at H ⊢; exact H)
               have hji10_ : ((rd l0 x10_1) / 2 ^ min (ji8).toNat 64) = ji10 := hji10;have hji10z : (ji8) ≤ 64 → ((rd l0 x10_1) / 2 ^ (ji8).toNat) = ji10 := shr_small hji10;by_cases c11 : x3_2.length < 17592186044416
               · rw [if_pos c11] at H;have LMc11 := Aside0.mk c11;clear c11;obtain ⟨y326, hy326⟩ : ∃ y_ : List Int, y_ = (x3_2 ++ [wrap64 (Go.bits .and .u64 (ji10) 65535)]) := ⟨_, rfl⟩
                 replace H : (spec_Of.l1 k2 y326 (rd l0 x10_1) (wrap64 (x6_2 + 1)) l0 (l0.length : Int) x10_1) = some r := by first | (rw [hy326]; exact H) | (have H2_ := (Option.bind_some _ _).symm.trans H; rw [hy326]; exact H2_) | exact H
                 have Ny326 := Aside0.mk hy326;clear hy326;have H' := Aside0.mk H;clear H;go_wp2_with (first | ((with_reducible refine gate_builtin (b := .append) (xs := #[.tmp 18, .tmp 25]) rfl ?_); at_builtin; refine Kd.R_append (Kd.int .i64) (w0 := w) w.heap.size rfl (.tmp 18) (.tmp 25) 23 3 (.int .i64 0) 8 rfl Tryz.underlying23 info3 rfl (by decide) (by omega) u3 x3_2 (wrap64 (Go.bits .and .u64 (ji10) 65535)) [.int .i64 (wrap64 (Go.bits .and .u64 (ji10) 65535))] (fun k_ => (w.heap.size ≤ k_)) (fun _ => False) rfl rfl ?aP (fun _ hk => hk.elim) ?aF ?aO ?aB ?aS ?aL ?_; (case aP => exact rfl); (case aB => exact HBq); (case aF => exact (fun k_ hk => (Nat.le_trans (below_size HBq) hk))); (case aO => exact (RAq HO_3.out)); (case aS => exact (below_size HBq)); (case aL => have := LMc11.out; omega); intro v327 w12 ho hb hg hat; rw [← Ny326.out] at ho; have n0_ := Aside0.mk (hb); have n1_ := Aside0.mk (ho); clear HB; clear HO_3; have HB := n0_; have HO328 := n1_; clear n0_ n1_; clear ho hb hg hat));go_roundg k2;case measure => have := HK1.out; have := HK2.out; omega
                 case rel => exact ⟨(y326), (wrap64 (x6_2 + 1)), rfq, H', ⟨by have := HK1.out; have := HK2.out; omega⟩, ⟨RAq HO328.out⟩, ⟨HBq⟩⟩
               · rw [if_neg c11] at H;exact absurd H (by simp)
             · rw [if_neg c9] at H;exact absurd H (by simp)
           · rw [if_neg c7] at H;have c7b0 : decide (x6_2 < 4) = false := decide_eq_false c7;clear c7;have H' := Aside0.mk H;clear H;go_wp2
             go_roundg k2;case measure => have := HK1.out; have := HK2.out; omega
             case rel => exact ⟨(x3_2), (wrap64 (x10_1 + 1)), rfq, H', ⟨by have := HK1.out; have := HK2.out; omega⟩, ⟨RAq HO_3.out⟩, ⟨HBq⟩⟩
       · rw [if_neg c6] at H;exact absurd H (by simp)
     · rw [if_neg c5] at H;exact absurd H (by simp)
   · rw [if_neg c4] at H;have c4b0 : decide (x10_1 < (l0.length : Int)) = false := decide_eq_false c4;clear c4;replace H := Option.bind_eq_some_iff.mp H;obtain ⟨t322, A130, H⟩ := H;replace H : (some t322) = some r := H;have A13 := Aside0.mk A130;clear A130;obtain rfl := Option.some.inj H;obtain ⟨Ao14, co14, eo14⟩ := Kd.R_slice HO_3.out;subst eo14;go_wp2_with (first | ((with_reducible refine gate_callee (f := 36) rfl ?_); refine goesL_ (some 29) rfl rfl Tryz.func36 (by kernel_rfl) rfl #[.slice Ao14 x3_1.length co14] rfl (by (try simp only [List.map_toArray, List.map_cons, List.map_nil]); first | done | rfl | (simp only [List.length_drop, List.length_take]; rfl)) ?_; (with_reducible refine (spec_trim.calls k1 (fun k_ => some k_ = (.slice Ao14 x3_1.length co14 : Value).ownBlock) _ _ x3_1 t322 _ ?side1 A13.out).mono ?_); (case side1 => exact Kd.R_V (Kd.R_tight rfl (HO_3.out))); rintro e w15 ⟨v323, rfl, ho0, hb⟩; refine ⟨_, rfl, ?_⟩; have n0_ := Aside0.mk (Kd.R_below (RAq HO_3.out) hb); have n1_ := Aside0.mk (Kd.V_lower (Kd.V_mono (ok' := fun k_ => (w.heap.size ≤ k_)) ho0 (fun k_ hk_ => Or.elim hk_ (fun hs_ => ((HO_3.out).1 k_ hs_.symm)) (fun hn_ => (Nat.le_trans (below_size HBq) hn_)))) (below_size HBq)); have n2_ := Aside0.mk (below_step HBq hb); clear HO_3; clear HB; have HO_3 := n0_; have HO324 := n1_; have HB := n2_; clear n0_ n1_ n2_; (try clear hb); (try clear hb2); (try clear hk); (try clear hi); (try clear ho0)));go_ret;exact ⟨_, by first | rfl | (simp [errW_none, errW_some] <;> rfl) | (simp [*, errW_none, errW_some] <;> rfl), by (with_reducible repeat (first | apply Kd.V_alloc | apply Kd.V_drewN | apply Kd.V_drew)); exact HO324.out, HBq⟩
def spec_Words.l0 : Nat → List Int → List Int → Int → Int → Option (List Int)
 | 0, _, _, _, _ => none
 | k + 1, x3, x7, x8, x9 => if x9 < x8 then (if 0 ≤ x9 then (if x9 < (x7.length : Int) then (if (Int.tmod x9 4) = 0 then (if x3.length < 17592186044416 then ((some (x3 ++ [0] : List Int)).bind fun y333 => (if 0 ≤ (wrap64 (Int.tdiv x9 4)) then (if (wrap64 (Int.tdiv x9 4)) < (y333.length : Int) then (if 0 ≤ (wrap64 (16 * (Int.tmod x9 4))) then (spec_Words.l0 k (y333.set ((wrap64 (Int.tdiv x9 4)) : Int).toNat (Go.bits .or .u64 (rd y333 (wrap64 (Int.tdiv x9 4))) (shl .u64 (IntKind.u64.wrap (rd x7 x9)) (wrap64 (16 * (Int.tmod x9 4)))))) x7 x8 (wrap64 (x9 + 1))) else (none)) else (none)) else (none))) else (none)) else (if 0 ≤ (wrap64 (Int.tdiv x9 4)) then (if (wrap64 (Int.tdiv x9 4)) < (x3.length : Int) then (if 0 ≤ (wrap64 (16 * (Int.tmod x9 4))) then (spec_Words.l0 k (x3.set ((wrap64 (Int.tdiv x9 4)) : Int).toNat (Go.bits .or .u64 (rd x3 (wrap64 (Int.tdiv x9 4))) (shl .u64 (IntKind.u64.wrap (rd x7 x9)) (wrap64 (16 * (Int.tmod x9 4)))))) x7 x8 (wrap64 (x9 + 1))) else (none)) else (none)) else (none))) else (none)) else (none)) else (some x3)
def spec_Words.f (k : Nat) (l0 : List Int) : Option (List Int) := spec_Words.l0 k (([] : List Int)) l0 (l0.length : Int) 0
def spec_Words.T7 : Bool × List (List Nat × List Nat) := (true, [([], []), ([], []), ([1], [1]), ([0, 2], [0, 2]), ([3], [3]), ([], []), ([5], [5]), ([], []), ([7], [7]), ([8], [8]), ([6, 9], [6, 9]), ([4, 10], [4, 10]), ([0, 2, 0, 1, 2, 3, 4, 5, 6, 7, 8, 9, 10, 11], [0, 2]), ([12, 11, 0, 1, 2, 3, 4, 5, 6, 7, 8, 9, 10, 11], [11, 12])])
def spec_Words.B7 : List Nat := [0, 0, 2, 7, 15, 0, 32, 0, 128, 384, 992, 2047, 4095, 8191]
theorem spec_Words.tab7 : rtab .any (opsOf Tryz.f39 7) = spec_Words.T7 := by kernel_rfl
theorem spec_Words.bits7 : waitsOk spec_Words.T7.2 spec_Words.B7 = true := by kernel_rfl
set_option maxHeartbeats 8000000 in
set_option maxRecDepth 100000 in
theorem spec_Words.calls (k : Nat) (A0 : Option Addr) (c0 : Nat) (l0 : List Int) (r : List Int) (w : World) (hr0 : Kd.C (Kd.int .i64) w A0 l0.length l0) (hc0 : l0.length ≤ c0) (h : spec_Words.f k l0 = some r) :
 Calls Tryz.prog 39 #[.slice A0 l0.length c0] w fun e w' => ∃ v0_ : Value, e = .returned (v0_) ∧ Kd.R (Kd.int .u64) 36 w' w.heap.size (fun _ => True) v0_ r ∧ Below w.heap.size w w' := by
 have HR0 := Aside0.mk hr0;have HC0 := Aside0.mk hc0;clear hr0 hc0;have HB := Aside0.mk (Below.refl w.heap.size w);have H : (spec_Words.l0 k (([] : List Int)) l0 (l0.length : Int) 0) = some r := h;clear h;obtain ⟨y329, hy329⟩ : ∃ y_ : List Int, y_ = (([] : List Int)) := ⟨_, rfl⟩
 replace H : (spec_Words.l0 k y329 l0 (l0.length : Int) 0) = some r := by first | (rw [hy329]; exact H) | (have H2_ := (Option.bind_some _ _).symm.trans H; rw [hy329]; exact H2_) | exact H
 have Ny329 := Aside0.mk hy329;clear hy329;have H' := Aside0.mk H;clear H;go_enter Tryz.func39, Tryz.ntmps39;go_wp2_with (first | ((with_reducible refine gate_dst (N := 6) rfl ?_); refine Kd.R_lit (Kd.int .u64) _ 36 ?hg (N := 6) ?hd (xs := ([] : List Int)) (inner := []) (ok := fun _ => True) (okp := fun _ => True) ?hr ?hp (fun _ hk => hk) trivial (Below.refl _ _) (Nat.le_refl _) (by simp) ?_; (case hd => rfl); (case hg => rfl); (case hr => first | (go_simp; done) | (go_simp; rfl)); (case hp => exact (Reps.none _ _)); intro v330 w2 ho3 hb hg_ hnew_; clear hg_ hnew_; (first | rw [← Ny329.out] at ho3 | (simp only [Int.reduceToNat] at ho3; rw [← Ny329.out] at ho3)); have n0_ := Aside0.mk (Kd.R_lower ho3 (below_size HBq)); have n1_ := Aside0.mk (below_step HBq hb); clear HB; have HO331 := n0_; have HB := n1_; clear n0_ n1_; clear hb ho3));go_loopg [3, 9] k (fun kq v3 v9 w' => ∃ (x3_1 : List Int) (x9_1 : Int), v9 = .int .i64 x9_1 ∧ Aside0 (spec_Words.l0 kq x3_1 l0 (l0.length : Int) x9_1 = some r) ∧ Aside0 (kq ≤ k) ∧ Aside0 (Kd.R (Kd.int .u64) 36 w' w.heap.size (fun _ => True) v3 x3_1) ∧ Aside0 (Below w.heap.size w w'));case atStart => exact ⟨(y329), (0), rfq, H', ⟨Nat.le_refl _⟩, ⟨RAq HO331.out⟩, ⟨HBq⟩⟩
 case round =>
  clear H';try clear p2
  try clear c3
  obtain ⟨x3_1, x9_1, rfl, HA, HK1, HO_3, HB⟩ := hrel;cases gk with
  | zero => exact absurd HA.out (by simp [spec_Words.l0])
  | succ k1 =>
   have H := HA.out;clear HA;simp only [spec_Words.l0] at H;by_cases c4 : x9_1 < (l0.length : Int)
   · rw [if_pos c4] at H;have c4b0 : decide (x9_1 < (l0.length : Int)) = true := decide_eq_true c4;clear c4;by_cases c5 : 0 ≤ x9_1
     · rw [if_pos c5] at H;have c5b0 : decide (0 ≤ x9_1) = true := decide_eq_true c5;clear c5;by_cases c6 : x9_1 < (l0.length : Int)
       · rw [if_pos c6] at H;have c6b0 : decide (x9_1 < (l0.length : Int)) = true := decide_eq_true c6;clear c6;by_cases c7 : (Int.tmod x9_1 4) = 0
         · rw [if_pos c7] at H;have c7b0 : ((Int.tmod x9_1 4) == 0) = true := beq_iff_eq.mpr c7;have c7b1 : ((Int.tmod x9_1 4) != 0) = false := bne_eq_false_iff_eq.mpr c7;clear c7;by_cases c8 : x3_1.length < 17592186044416
           · rw [if_pos c8] at H;have LMc8 := Aside0.mk c8;clear c8;obtain ⟨y333, hy333⟩ : ∃ y_ : List Int, y_ = (x3_1 ++ [0]) := ⟨_, rfl⟩
             replace H : (if 0 ≤ (wrap64 (Int.tdiv x9_1 4)) then (if (wrap64 (Int.tdiv x9_1 4)) < (y333.length : Int) then (if 0 ≤ (wrap64 (16 * (Int.tmod x9_1 4))) then (spec_Words.l0 k1 (y333.set ((wrap64 (Int.tdiv x9_1 4)) : Int).toNat (Go.bits .or .u64 (rd y333 (wrap64 (Int.tdiv x9_1 4))) (shl .u64 (IntKind.u64.wrap (rd l0 x9_1)) (wrap64 (16 * (Int.tmod x9_1 4)))))) l0 (l0.length : Int) (wrap64 (x9_1 + 1))) else (none)) else (none)) else (none)) = some r := by first | (rw [hy333]; exact H) | (have H2_ := (Option.bind_some _ _).symm.trans H; rw [hy333]; exact H2_) | exact H
             have Ny333 := Aside0.mk hy333;clear hy333;obtain ⟨ji9, hji9⟩ : ∃ j_ : Int, (wrap64 (Int.tdiv x9_1 4)) = j_ := ⟨_, rfl⟩
             replace H : (if 0 ≤ (ji9) then (if (ji9) < (y333.length : Int) then (if 0 ≤ (wrap64 (16 * (Int.tmod x9_1 4))) then (spec_Words.l0 k1 (y333.set ((ji9) : Int).toNat (Go.bits .or .u64 (rd y333 (ji9)) (shl .u64 (IntKind.u64.wrap (rd l0 x9_1)) (wrap64 (16 * (Int.tmod x9_1 4)))))) l0 (l0.length : Int) (wrap64 (x9_1 + 1))) else (none)) else (none)) else (none)) = some r := by first | (rw [hji9] at H; exact H) | (simp only [hji9] at H ⊢; exact H)
             have hji9w : (IntKind.i64.wrap (Int.tdiv x9_1 4)) = ji9 := (i64_w _).trans hji9;by_cases c10 : 0 ≤ (ji9)
             · rw [if_pos c10] at H;have c10b0 : decide (0 ≤ (ji9)) = true := decide_eq_true c10;clear c10;by_cases c11 : (ji9) < (y333.length : Int)
               · rw [if_pos c11] at H;have c11b0 : decide ((ji9) < (y333.length : Int)) = true := decide_eq_true c11;clear c11;obtain ⟨ji12, hji12⟩ : ∃ j_ : Int, (wrap64 (16 * (Int.tmod x9_1 4))) = j_ := ⟨_, rfl⟩
                 replace H : (if 0 ≤ (ji12) then (spec_Words.l0 k1 (y333.set ((ji9) : Int).toNat (Go.bits .or .u64 (rd y333 (ji9)) (shl .u64 (IntKind.u64.wrap (rd l0 x9_1)) (ji12)))) l0 (l0.length : Int) (wrap64 (x9_1 + 1))) else (none)) = some r := by first | (rw [hji12] at H; exact H) | (simp only [hji12] at H ⊢; exact H)
                 have hji12w : (IntKind.i64.wrap (16 * (Int.tmod x9_1 4))) = ji12 := (i64_w _).trans hji12;by_cases c13 : 0 ≤ (ji12)
                 · rw [if_pos c13] at H;have c13b0 := eq_true c13;have c13b1 : decide (0 ≤ (ji12)) = true := decide_eq_true c13;clear c13;obtain ⟨ji14, hji14⟩ : ∃ j_ : Int, (shl .u64 (IntKind.u64.wrap (rd l0 x9_1)) (ji12)) = j_ := ⟨_, rfl⟩
                   replace H : (spec_Words.l0 k1 (y333.set ((ji9) : Int).toNat (Go.bits .or .u64 (rd y333 (ji9)) (ji14))) l0 (l0.length : Int) (wrap64 (x9_1 + 1))) = some r := by first | (rw [hji14] at H; exact H) | (simp only [hji14] at H ⊢; exact H)
                   have hji14_ : (IntKind.u64.wrap ((IntKind.u64.wrap (rd l0 x9_1)) * 2 ^ min (ji12).toNat 64)) = ji14 := hji14;have hji14z : (ji12) ≤ 64 → (IntKind.u64.wrap ((IntKind.u64.wrap (rd l0 x9_1)) * 2 ^ (ji12).toNat)) = ji14 := shl_small hji14;obtain ⟨y337, hy337⟩ : ∃ y_ : List Int, y_ = (y333.set ((ji9) : Int).toNat (Go.bits .or .u64 (rd y333 (ji9)) (ji14))) := ⟨_, rfl⟩
                   replace H : (spec_Words.l0 k1 y337 l0 (l0.length : Int) (wrap64 (x9_1 + 1))) = some r := by first | (rw [hy337]; exact H) | (have H2_ := (Option.bind_some _ _).symm.trans H; rw [hy337]; exact H2_) | exact H
                   have Ny337 := Aside0.mk hy337;clear hy337;have H' := Aside0.mk H;clear H;have p332 : 0 ≤ (x9_1 : Int) := of_decide_eq_true asq;have q332 : x9_1 < (l0.length : Int) := of_decide_eq_true asq;obtain ⟨ad332, e332, hx332_0⟩ := Kd.at_int HR0.out x9_1 p332 q332;cases e332;replace hx332_0 := (HB.out.cell (World.block_lt_of_cell? w _ hx332_0)).trans hx332_0;replace p332 := eq_true p332;replace q332 := eq_true q332;try go_wp2_with (first | ((with_reducible refine gate_builtin (b := .append) (xs := #[.tmp 17, .tmp 18]) rfl ?_); at_builtin; refine Kd.R_append (Kd.int .u64) (w0 := w) w.heap.size rfl (.tmp 17) (.tmp 18) 28 36 (.int .u64 0) 8 rfl Tryz.underlying28 info36 rfl (by decide) (by omega) u3 x3_1 0 [.int .u64 0] (fun _ => True) (fun _ => False) rfl rfl ?aP (fun _ hk => hk.elim) ?aF ?aO ?aB ?aS ?aL ?_; (case aP => exact rfl); (case aB => exact HBq); (case aF => exact (fun _ _ => trivial)); (case aO => exact (RAq HO_3.out)); (case aS => exact (below_size HBq)); (case aL => have := LMc8.out; omega); intro v334 w16 ho hb hg hat; rw [← Ny333.out] at ho; have n0_ := Aside0.mk (hb); have n1_ := Aside0.mk (ho); clear HB; clear HO_3; have HB := n0_; have HO335 := n1_; clear n0_ n1_; clear ho hb hg hat))
                   have n0_ := Aside0.mk (Kd.R_drew HO335.out);have n1_ := Aside0.mk (below_drew1 HB.out);clear HO335;clear HB;have HO335 := n0_;have HB := n1_;clear n0_ n1_;obtain ⟨Ao18, co18, eo18⟩ := Kd.R_slice HO335.out;(first | subst eo18 | (injection eo18 with f1_ f2_ f3_; have f4_ := f1_.symm; have f5_ := f3_.symm; clear f1_ f2_ f3_; subst f4_; subst f5_));have p336 : 0 ≤ ((ji9) : Int) := of_decide_eq_true asq;have q336 : (ji9) < (y333.length : Int) := of_decide_eq_true asq;obtain ⟨ad336, e336, hx336_0⟩ := Kd.at_int (Kd.R_reads' HO335.out).2.2 (ji9) p336 q336;cases e336;replace p336 := eq_true p336;replace q336 := eq_true q336;have p15 : 0 ≤ ((ji9) : Int) := of_decide_eq_true asq;have q15 : ((ji9) : Int) < ((y333.length : Int) : Int) := of_decide_eq_true asq;obtain ⟨go15, co15, eo15, gb15, gl15, cl15, HG15⟩ := Kd.R_form HO335.out (by omega);(first | cases eo15 | (injection eo15 with ea_ en_ ec_; (first | subst ea_ | (injection ea_ with ea_; subst ea_)); subst ec_; clear en_));have GB15 := Aside0.mk gb15;have GG15 := Aside0.mk HG15;clear gb15 gl15 HG15;(first | simp only [add_plain] at hx336_0 | skip);obtain ⟨hx15_0, hf15_0⟩ := Kd.R_celln 0 HO335.out ((ji9) : Int) p15 q15;replace p15 := eq_true p15;replace q15 := eq_true q15;have HP19 := Kd.R_putn HO335.out ((ji9) : Int) (Go.bits .or .u64 (rd y333 (ji9)) (ji14));rw [← Ny337.out] at HP19;have HQ19 := Aside0.mk HP19;clear HP19;refine start_ (n := 14) (S := fun w' => w'.cell? ⟨go15, ((ji9)).toNat, none⟩ = some (.int .u64 (rd y333 (ji9)))) (ds := [13]) #[false, false, false, false, false, false, false, false, false, false, false, false, false, false] (by kernel_rfl) rfl rfl (hx336_0) (fun hHeld => ?_); refine with_tabW spec_Words.tab7 spec_Words.bits7 (fun HT_ HW_ => ?_);generalize w16.drew = w17 at HO335 HB GG15 HQ19 hf15_0 hx15_0 hx336_0 hHeld ⊢;refine pure_ (i := 0) (N := some 20) (v := ?_) (a' := ?_) #[true, false, false, false, false, false, false, false, false, false, false, false, false, false] rfl rfl (any_of HT_.out (by kernel_rfl)) (fun _ _ _ h => h) (Or.inl ⟨by rfl, ?_⟩) ?_ ?_;rotate_left;· intro w';go_simp;with_reducible rfl
                   rotate_left;· exact spq
                   refine pure_ (i := 1) (N := some 21) (v := ?_) (a' := ?_) #[true, true, false, false, false, false, false, false, false, false, false, false, false, false] rfl rfl (any_of HT_.out (by kernel_rfl)) (fun _ _ _ h => h) (Or.inl ⟨by rfl, ?_⟩) ?_ ?_;rotate_left;· intro w';go_simp;with_reducible rfl
                   rotate_left;· exact spq
                   refine pure_ (i := 2) (N := some 22) (v := ?_) (a' := ?_) #[true, true, true, false, false, false, false, false, false, false, false, false, false, false] rfl rfl (any_of HT_.out (by kernel_rfl)) (fun _ _ _ h => h) (Or.inl ⟨by rfl, ?_⟩) ?_ ?_;rotate_left;· intro w';go_simp;with_reducible rfl
                   rotate_left;· exact spq
                   refine pure_ (i := 3) (N := some 23) (v := ?_) (a' := ?_) #[true, true, true, true, false, false, false, false, false, false, false, false, false, false] rfl rfl (any_of HT_.out (by kernel_rfl)) (fun _ _ _ h => h) (Or.inl ⟨by rfl, ?_⟩) ?_ ?_;rotate_left;· intro w';go_simp;with_reducible rfl
                   rotate_left;· exact spq
                   refine pure_ (i := 5) (N := some 25) (v := ?_) (a' := ?_) #[true, true, true, true, false, true, false, false, false, false, false, false, false, false] rfl rfl (any_of HT_.out (by kernel_rfl)) (fun _ _ _ h => h) (Or.inl ⟨by rfl, ?_⟩) ?_ ?_;rotate_left;· intro w';go_simp;with_reducible rfl
                   rotate_left;· exact spq
                   refine pure_ (i := 6) (N := some 26) (v := ?_) (a' := ?_) #[true, true, true, true, false, true, true, false, false, false, false, false, false, false] rfl rfl (any_of HT_.out (by kernel_rfl)) (fun _ _ _ h => h) (Or.inl ⟨by rfl, ?_⟩) ?_ ?_;rotate_left;· intro w';go_simp;with_reducible rfl
                   rotate_left;· exact spq
                   refine pure_ (i := 7) (N := some 27) (v := ?_) (a' := ?_) #[true, true, true, true, false, true, true, true, false, false, false, false, false, false] rfl rfl (any_of HT_.out (by kernel_rfl)) (fun _ _ _ h => h) (Or.inl ⟨by rfl, ?_⟩) ?_ ?_;rotate_left;· intro w';go_simp;with_reducible rfl
                   rotate_left;· exact spq
                   refine pure_ (i := 8) (N := some 28) (v := ?_) (a' := ?_) #[true, true, true, true, false, true, true, true, true, false, false, false, false, false] rfl rfl (any_of HT_.out (by kernel_rfl)) (fun _ _ _ h => h) (Or.inl ⟨by rfl, ?_⟩) ?_ ?_;rotate_left;· intro w';go_simp;with_reducible rfl
                   rotate_left;· exact spq
                   refine pure_ (i := 9) (N := some 29) (v := ?_) (a' := ?_) #[true, true, true, true, false, true, true, true, true, true, false, false, false, false] rfl rfl (any_of HT_.out (by kernel_rfl)) (fun _ _ _ h => h) (Or.inl ⟨by rfl, ?_⟩) ?_ ?_;rotate_left;· intro w';go_simp;with_reducible rfl
                   rotate_left;· exact spq
                   refine pure_ (i := 10) (N := some 30) (v := ?_) (a' := ?_) #[true, true, true, true, false, true, true, true, true, true, true, false, false, false] rfl rfl (any_of HT_.out (by kernel_rfl)) (fun _ _ _ h => h) (Or.inl ⟨by rfl, ?_⟩) ?_ ?_;rotate_left;· intro w';go_simp;with_reducible rfl
                   rotate_left;· exact spq
                   refine take_ (i := 4) (N := some 24) (v := ?_) (a' := ?_) #[true, true, true, true, true, true, true, true, true, true, true, false, false, false] rfl rfl (take_ofW HT_.out HW_.out (by kernel_rfl)) (fun _ _ _ h => h) (Or.inl ⟨by rfl, ?_⟩) hHeld ?_ ?_;rotate_left;· intro w' s0;go_simp;with_reducible rfl
                   rotate_left;· exact spq
                   refine pure_ (i := 11) (N := some 31) (v := ?_) (a' := ?_) #[true, true, true, true, true, true, true, true, true, true, true, true, false, false] rfl rfl (any_of HT_.out (by kernel_rfl)) (fun _ _ _ h => h) (Or.inl ⟨by rfl, ?_⟩) ?_ ?_;rotate_left;· intro w';go_simp;with_reducible rfl
                   rotate_left;· exact spq
                   refine pure_ (i := 12) (N := some 32) (v := ?_) (a' := ?_) #[true, true, true, true, true, true, true, true, true, true, true, true, true, false] rfl rfl (any_of HT_.out (by kernel_rfl)) (fun _ _ _ h => h) (Or.inl ⟨by rfl, ?_⟩) ?_ ?_;rotate_left;· intro w';go_simp;with_reducible rfl
                   rotate_left;· exact spq
                   refine last_ (i := 13) (N := none) #[true, true, true, true, true, true, true, true, true, true, true, true, true, true] rfl rfl (one_of HT_.out (by kernel_rfl)) (by decide) (fun K hK => ?_);refine skip_ (w1 := ?_) (by rfl) rfl ?_ ?_;rotate_left;· go_simp;rfl
                   refine hK.out _ _ ?_;clear hK K;refine done_ (done_of HT_.out (by kernel_rfl)) ?_;try go_wp2
                   go_roundg k1;case measure => have := HK1.out; omega
                   case rel => exact ⟨(y337), (wrap64 (x9_1 + 1)), rfq, H', ⟨by have := HK1.out; omega⟩, ⟨RAq HQ19.out⟩, ⟨by repeat (first | (with_reducible first | exact HB.out | apply below_alloc | apply pw_below_drewN | apply below_drew1 | refine below_set ?_ GB15.out) | exact HB.out)⟩⟩
                 · rw [if_neg c13] at H;exact absurd H (by simp)
               · rw [if_neg c11] at H;exact absurd H (by simp)
             · rw [if_neg c10] at H;exact absurd H (by simp)
           · rw [if_neg c8] at H;exact absurd H (by simp)
         · rw [if_neg c7] at H;have c7b0 : ((Int.tmod x9_1 4) == 0) = false := beq_eq_false_iff_ne.mpr c7;have c7b1 : ((Int.tmod x9_1 4) != 0) = true := bne_iff_ne.mpr c7;obtain ⟨ji20, hji20⟩ : ∃ j_ : Int, (wrap64 (Int.tdiv x9_1 4)) = j_ := ⟨_, rfl⟩
           replace H : (if 0 ≤ (ji20) then (if (ji20) < (x3_1.length : Int) then (if 0 ≤ (wrap64 (16 * (Int.tmod x9_1 4))) then (spec_Words.l0 k1 (x3_1.set ((ji20) : Int).toNat (Go.bits .or .u64 (rd x3_1 (ji20)) (shl .u64 (IntKind.u64.wrap (rd l0 x9_1)) (wrap64 (16 * (Int.tmod x9_1 4)))))) l0 (l0.length : Int) (wrap64 (x9_1 + 1))) else (none)) else (none)) else (none)) = some r := by first | (rw [hji20] at H; exact H) | (simp only [hji20] at H ⊢; exact H)
           have hji20w : (IntKind.i64.wrap (Int.tdiv x9_1 4)) = ji20 := (i64_w _).trans hji20;by_cases c21 : 0 ≤ (ji20)
           · rw [if_pos c21] at H;have c21b0 : decide (0 ≤ (ji20)) = true := decide_eq_true c21;clear c21;by_cases c22 : (ji20) < (x3_1.length : Int)
             · rw [if_pos c22] at H;have c22b0 : decide ((ji20) < (x3_1.length : Int)) = true := decide_eq_true c22;clear c22;obtain ⟨ji23, hji23⟩ : ∃ j_ : Int, (wrap64 (16 * (Int.tmod x9_1 4))) = j_ := ⟨_, rfl⟩
               replace H : (if 0 ≤ (ji23) then (spec_Words.l0 k1 (x3_1.set ((ji20) : Int).toNat (Go.bits .or .u64 (rd x3_1 (ji20)) (shl .u64 (IntKind.u64.wrap (rd l0 x9_1)) (ji23)))) l0 (l0.length : Int) (wrap64 (x9_1 + 1))) else (none)) = some r := by first | (rw [hji23] at H; exact H) | (simp only [hji23] at H ⊢; exact H)
               have hji23w : (IntKind.i64.wrap (16 * (Int.tmod x9_1 4))) = ji23 := (i64_w _).trans hji23;by_cases c24 : 0 ≤ (ji23)
               · rw [if_pos c24] at H;have c24b0 := eq_true c24;have c24b1 : decide (0 ≤ (ji23)) = true := decide_eq_true c24;clear c24;obtain ⟨ji25, hji25⟩ : ∃ j_ : Int, (shl .u64 (IntKind.u64.wrap (rd l0 x9_1)) (ji23)) = j_ := ⟨_, rfl⟩
                 replace H : (spec_Words.l0 k1 (x3_1.set ((ji20) : Int).toNat (Go.bits .or .u64 (rd x3_1 (ji20)) (ji25))) l0 (l0.length : Int) (wrap64 (x9_1 + 1))) = some r := by first | (rw [hji25] at H; exact H) | (simp only [hji25] at H ⊢; exact H)
                 have hji25_ : (IntKind.u64.wrap ((IntKind.u64.wrap (rd l0 x9_1)) * 2 ^ min (ji23).toNat 64)) = ji25 := hji25;have hji25z : (ji23) ≤ 64 → (IntKind.u64.wrap ((IntKind.u64.wrap (rd l0 x9_1)) * 2 ^ (ji23).toNat)) = ji25 := shl_small hji25;obtain ⟨y339, hy339⟩ : ∃ y_ : List Int, y_ = (x3_1.set ((ji20) : Int).toNat (Go.bits .or .u64 (rd x3_1 (ji20)) (ji25))) := ⟨_, rfl⟩
                 replace H : (spec_Words.l0 k1 y339 l0 (l0.length : Int) (wrap64 (x9_1 + 1))) = some r := by first | (rw [hy339]; exact H) | (have H2_ := (Option.bind_some _ _).symm.trans H; rw [hy339]; exact H2_) | exact H
                 have Ny339 := Aside0.mk hy339;clear hy339;have H' := Aside0.mk H;clear H;have p332 : 0 ≤ (x9_1 : Int) := of_decide_eq_true asq;have q332 : x9_1 < (l0.length : Int) := of_decide_eq_true asq;obtain ⟨ad332, e332, hx332_0⟩ := Kd.at_int HR0.out x9_1 p332 q332;cases e332;replace hx332_0 := (HB.out.cell (World.block_lt_of_cell? w _ hx332_0)).trans hx332_0;replace p332 := eq_true p332;replace q332 := eq_true q332;try go_wp2
                 have n0_ := Aside0.mk (Kd.R_drew HO_3.out);have n1_ := Aside0.mk (below_drew1 HB.out);clear HO_3;clear HB;have HO_3 := n0_;have HB := n1_;clear n0_ n1_;obtain ⟨Ao28, co28, eo28⟩ := Kd.R_slice HO_3.out;(first | subst eo28 | (injection eo28 with f1_ f2_ f3_; have f4_ := f1_.symm; have f5_ := f3_.symm; clear f1_ f2_ f3_; subst f4_; subst f5_));have p338 : 0 ≤ ((ji20) : Int) := of_decide_eq_true asq;have q338 : (ji20) < (x3_1.length : Int) := of_decide_eq_true asq;obtain ⟨ad338, e338, hx338_0⟩ := Kd.at_int (Kd.R_reads' HO_3.out).2.2 (ji20) p338 q338;cases e338;replace p338 := eq_true p338;replace q338 := eq_true q338;have p26 : 0 ≤ ((ji20) : Int) := of_decide_eq_true asq;have q26 : ((ji20) : Int) < ((x3_1.length : Int) : Int) := of_decide_eq_true asq;obtain ⟨go26, co26, eo26, gb26, gl26, cl26, HG26⟩ := Kd.R_form HO_3.out (by omega);(first | cases eo26 | (injection eo26 with ea_ en_ ec_; (first | subst ea_ | (injection ea_ with ea_; subst ea_)); subst ec_; clear en_));have GB26 := Aside0.mk gb26;have GG26 := Aside0.mk HG26;clear gb26 gl26 HG26;(first | simp only [add_plain] at hx338_0 | skip);obtain ⟨hx26_0, hf26_0⟩ := Kd.R_celln 0 HO_3.out ((ji20) : Int) p26 q26;replace p26 := eq_true p26;replace q26 := eq_true q26;have HP29 := Kd.R_putn HO_3.out ((ji20) : Int) (Go.bits .or .u64 (rd x3_1 (ji20)) (ji25));rw [← Ny339.out] at HP29;have HQ29 := Aside0.mk HP29;clear HP29;refine start_ (n := 14) (S := fun w' => w'.cell? ⟨go26, ((ji20)).toNat, none⟩ = some (.int .u64 (rd x3_1 (ji20)))) (ds := [13]) #[false, false, false, false, false, false, false, false, false, false, false, false, false, false] (by kernel_rfl) rfl rfl (hx338_0) (fun hHeld => ?_); refine with_tabW spec_Words.tab7 spec_Words.bits7 (fun HT_ HW_ => ?_);generalize wr.drew = w27 at HO_3 HB GG26 HQ29 hf26_0 hx26_0 hx338_0 hHeld ⊢;refine pure_ (i := 0) (N := some 20) (v := ?_) (a' := ?_) #[true, false, false, false, false, false, false, false, false, false, false, false, false, false] rfl rfl (any_of HT_.out (by kernel_rfl)) (fun _ _ _ h => h) (Or.inl ⟨by rfl, ?_⟩) ?_ ?_;rotate_left;· intro w';go_simp;with_reducible rfl
                 rotate_left;· exact spq
                 refine pure_ (i := 1) (N := some 21) (v := ?_) (a' := ?_) #[true, true, false, false, false, false, false, false, false, false, false, false, false, false] rfl rfl (any_of HT_.out (by kernel_rfl)) (fun _ _ _ h => h) (Or.inl ⟨by rfl, ?_⟩) ?_ ?_;rotate_left;· intro w';go_simp;with_reducible rfl
                 rotate_left;· exact spq
                 refine pure_ (i := 2) (N := some 22) (v := ?_) (a' := ?_) #[true, true, true, false, false, false, false, false, false, false, false, false, false, false] rfl rfl (any_of HT_.out (by kernel_rfl)) (fun _ _ _ h => h) (Or.inl ⟨by rfl, ?_⟩) ?_ ?_;rotate_left;· intro w';go_simp;with_reducible rfl
                 rotate_left;· exact spq
                 refine pure_ (i := 3) (N := some 23) (v := ?_) (a' := ?_) #[true, true, true, true, false, false, false, false, false, false, false, false, false, false] rfl rfl (any_of HT_.out (by kernel_rfl)) (fun _ _ _ h => h) (Or.inl ⟨by rfl, ?_⟩) ?_ ?_;rotate_left;· intro w';go_simp;with_reducible rfl
                 rotate_left;· exact spq
                 refine pure_ (i := 5) (N := some 25) (v := ?_) (a' := ?_) #[true, true, true, true, false, true, false, false, false, false, false, false, false, false] rfl rfl (any_of HT_.out (by kernel_rfl)) (fun _ _ _ h => h) (Or.inl ⟨by rfl, ?_⟩) ?_ ?_;rotate_left;· intro w';go_simp;with_reducible rfl
                 rotate_left;· exact spq
                 refine pure_ (i := 6) (N := some 26) (v := ?_) (a' := ?_) #[true, true, true, true, false, true, true, false, false, false, false, false, false, false] rfl rfl (any_of HT_.out (by kernel_rfl)) (fun _ _ _ h => h) (Or.inl ⟨by rfl, ?_⟩) ?_ ?_;rotate_left;· intro w';go_simp;with_reducible rfl
                 rotate_left;· exact spq
                 refine pure_ (i := 7) (N := some 27) (v := ?_) (a' := ?_) #[true, true, true, true, false, true, true, true, false, false, false, false, false, false] rfl rfl (any_of HT_.out (by kernel_rfl)) (fun _ _ _ h => h) (Or.inl ⟨by rfl, ?_⟩) ?_ ?_;rotate_left;· intro w';go_simp;with_reducible rfl
                 rotate_left;· exact spq
                 refine pure_ (i := 8) (N := some 28) (v := ?_) (a' := ?_) #[true, true, true, true, false, true, true, true, true, false, false, false, false, false] rfl rfl (any_of HT_.out (by kernel_rfl)) (fun _ _ _ h => h) (Or.inl ⟨by rfl, ?_⟩) ?_ ?_;rotate_left;· intro w';go_simp;with_reducible rfl
                 rotate_left;· exact spq
                 refine pure_ (i := 9) (N := some 29) (v := ?_) (a' := ?_) #[true, true, true, true, false, true, true, true, true, true, false, false, false, false] rfl rfl (any_of HT_.out (by kernel_rfl)) (fun _ _ _ h => h) (Or.inl ⟨by rfl, ?_⟩) ?_ ?_;rotate_left;· intro w';go_simp;with_reducible rfl
                 rotate_left;· exact spq
                 refine pure_ (i := 10) (N := some 30) (v := ?_) (a' := ?_) #[true, true, true, true, false, true, true, true, true, true, true, false, false, false] rfl rfl (any_of HT_.out (by kernel_rfl)) (fun _ _ _ h => h) (Or.inl ⟨by rfl, ?_⟩) ?_ ?_;rotate_left;· intro w';go_simp;with_reducible rfl
                 rotate_left;· exact spq
                 refine take_ (i := 4) (N := some 24) (v := ?_) (a' := ?_) #[true, true, true, true, true, true, true, true, true, true, true, false, false, false] rfl rfl (take_ofW HT_.out HW_.out (by kernel_rfl)) (fun _ _ _ h => h) (Or.inl ⟨by rfl, ?_⟩) hHeld ?_ ?_;rotate_left;· intro w' s0;go_simp;with_reducible rfl
                 rotate_left;· exact spq
                 refine pure_ (i := 11) (N := some 31) (v := ?_) (a' := ?_) #[true, true, true, true, true, true, true, true, true, true, true, true, false, false] rfl rfl (any_of HT_.out (by kernel_rfl)) (fun _ _ _ h => h) (Or.inl ⟨by rfl, ?_⟩) ?_ ?_;rotate_left;· intro w';go_simp;with_reducible rfl
                 rotate_left;· exact spq
                 refine pure_ (i := 12) (N := some 32) (v := ?_) (a' := ?_) #[true, true, true, true, true, true, true, true, true, true, true, true, true, false] rfl rfl (any_of HT_.out (by kernel_rfl)) (fun _ _ _ h => h) (Or.inl ⟨by rfl, ?_⟩) ?_ ?_;rotate_left;· intro w';go_simp;with_reducible rfl
                 rotate_left;· exact spq
                 refine last_ (i := 13) (N := none) #[true, true, true, true, true, true, true, true, true, true, true, true, true, true] rfl rfl (one_of HT_.out (by kernel_rfl)) (by decide) (fun K hK => ?_);refine skip_ (w1 := ?_) (by rfl) rfl ?_ ?_;rotate_left;· go_simp;rfl
                 refine hK.out _ _ ?_;clear hK K;refine done_ (done_of HT_.out (by kernel_rfl)) ?_;try go_wp2
                 go_roundg k1;case measure => have := HK1.out; omega
                 case rel => exact ⟨(y339), (wrap64 (x9_1 + 1)), rfq, H', ⟨by have := HK1.out; omega⟩, ⟨RAq HQ29.out⟩, ⟨by repeat (first | (with_reducible first | exact HB.out | apply below_alloc | apply pw_below_drewN | apply below_drew1 | refine below_set ?_ GB26.out) | exact HB.out)⟩⟩
               · rw [if_neg c24] at H;exact absurd H (by simp)
             · rw [if_neg c22] at H;exact absurd H (by simp)
           · rw [if_neg c21] at H;exact absurd H (by simp)
       · rw [if_neg c6] at H;exact absurd H (by simp)
     · rw [if_neg c5] at H;exact absurd H (by simp)
   · rw [if_neg c4] at H;have c4b0 : decide (x9_1 < (l0.length : Int)) = false := decide_eq_false c4;clear c4;obtain rfl := Option.some.inj H;go_wp2
     go_ret;exact ⟨_, by first | rfl | (simp [errW_none, errW_some] <;> rfl) | (simp [*, errW_none, errW_some] <;> rfl), by (with_reducible repeat (first | apply Kd.R_alloc | apply Kd.R_drewN | apply Kd.R_drew)); exact HO_3.out, HBq⟩
def spec_HasWords.l0 : Nat → List Int → List Int → Int → Int → Option (Bool)
 | 0, _, _, _, _ => none
 | k + 1, x0, x5, x15, x16 => if x16 < x15 then (if 0 ≤ x16 then (if x16 < (x0.length : Int) then (if x16 < (x5.length : Int) then (if (rd x0 x16) = (rd x5 x16) then (spec_HasWords.l0 k x0 x5 x15 (wrap64 (x16 + 1))) else (some false)) else (none)) else (none)) else (none)) else (some true)
def spec_HasWords.f (k : Nat) (l0 : List Int) (l1 : List Int) : Option (Bool) := (spec_Words.f k l1).bind fun t340 => (if (l0.length : Int) = (t340.length : Int) then (spec_HasWords.l0 k l0 t340 (t340.length : Int) 0) else (some false))
set_option maxHeartbeats 8000000 in
set_option maxRecDepth 100000 in
theorem spec_HasWords.calls (k : Nat) (A0 : Option Addr) (c0 : Nat) (l0 : List Int) (A1 : Option Addr) (c1 : Nat) (l1 : List Int) (r : Bool) (w : World) (hr0 : Kd.C (Kd.int .u64) w A0 l0.length l0) (hc0 : l0.length ≤ c0) (hr1 : Kd.C (Kd.int .i64) w A1 l1.length l1) (hc1 : l1.length ≤ c1) (h : spec_HasWords.f k l0 l1 = some r) :
 Calls Tryz.prog 27 #[.slice A0 l0.length c0, .slice A1 l1.length c1] w fun e w' => e = .returned (.bool r) ∧ Below w.heap.size w w' := by
 have HR0 := Aside0.mk hr0;have HC0 := Aside0.mk hc0;clear hr0 hc0;have HR1 := Aside0.mk hr1;have HC1 := Aside0.mk hc1;clear hr1 hc1;have HB := Aside0.mk (Below.refl w.heap.size w);have H : ((spec_Words.f k l1).bind fun t340 => (if (l0.length : Int) = (t340.length : Int) then (spec_HasWords.l0 k l0 t340 (t340.length : Int) 0) else (some false))) = some r := h;clear h;replace H := Option.bind_eq_some_iff.mp H;obtain ⟨t340, A30, H⟩ := H;replace H : (if (l0.length : Int) = (t340.length : Int) then (spec_HasWords.l0 k l0 t340 (t340.length : Int) 0) else (some false)) = some r := H;have A3 := Aside0.mk A30;clear A30;by_cases c4 : (l0.length : Int) = (t340.length : Int)
 · rw [if_pos c4] at H;have c4b0 : ((l0.length : Int) == (t340.length : Int)) = true := beq_iff_eq.mpr c4;have c4b1 : ((l0.length : Int) != (t340.length : Int)) = false := bne_eq_false_iff_eq.mpr c4;have c4b2 : (l0.length == t340.length) = true := by first | simpa using c4 | (simp at c4 ⊢; omega)
   clear c4;have H' := Aside0.mk H;clear H;go_enter Tryz.func27, Tryz.ntmps27;go_wp2_with (first | (go_at_call 39; (with_reducible refine (spec_Words.calls k _ _ l1 t340 _ ?side1 ?side2 A3.out).mono ?_); (case side1 => repeat (first | exact HR1.out | (with_reducible refine Kd.C_alloc ?_ _) | (with_reducible refine Kd.C_drewN ?_ _) | (with_reducible refine Kd.C_drew ?_))); (case side2 => exact HC1.out); rintro e w5 ⟨v341, rfl, ho0, hb⟩; have n0_ := Aside0.mk (Kd.R_lower ho0 (below_size HBq)); have n1_ := Aside0.mk (below_step HBq hb); clear HB; have HO342 := n0_; have HB := n1_; clear n0_ n1_; (try clear hb); (try clear hb2); (try clear hk); (try clear hi); (try clear ho0); obtain ⟨Ao6, co6, eo6⟩ := Kd.R_slice HO342.out; subst eo6));repeat (go_quiet (first | (go_at_call 39; (with_reducible refine (spec_Words.calls k _ _ l1 t340 _ ?side1 ?side2 A3.out).mono ?_); (case side1 => repeat (first | exact HR1.out | (with_reducible refine Kd.C_alloc ?_ _) | (with_reducible refine Kd.C_drewN ?_ _) | (with_reducible refine Kd.C_drew ?_))); (case side2 => exact HC1.out); rintro e w5 ⟨v341, rfl, ho0, hb⟩; have n0_ := Aside0.mk (Kd.R_lower ho0 (below_size HBq)); have n1_ := Aside0.mk (below_step HBq hb); clear HB; have HO342 := n0_; have HB := n1_; clear n0_ n1_; (try clear hb); (try clear hb2); (try clear hk); (try clear hi); (try clear ho0); obtain ⟨Ao6, co6, eo6⟩ := Kd.R_slice HO342.out; subst eo6)); try go_wp2_with (first | (go_at_call 39; (with_reducible refine (spec_Words.calls k _ _ l1 t340 _ ?side1 ?side2 A3.out).mono ?_); (case side1 => repeat (first | exact HR1.out | (with_reducible refine Kd.C_alloc ?_ _) | (with_reducible refine Kd.C_drewN ?_ _) | (with_reducible refine Kd.C_drew ?_))); (case side2 => exact HC1.out); rintro e w5 ⟨v341, rfl, ho0, hb⟩; have n0_ := Aside0.mk (Kd.R_lower ho0 (below_size HBq)); have n1_ := Aside0.mk (below_step HBq hb); clear HB; have HO342 := n0_; have HB := n1_; clear n0_ n1_; (try clear hb); (try clear hb2); (try clear hk); (try clear hi); (try clear ho0); obtain ⟨Ao6, co6, eo6⟩ := Kd.R_slice HO342.out; subst eo6)))
   go_loopg [16] k (fun kq v16 w' => ∃ (x16_1 : Int), v16 = .int .i64 x16_1 ∧ Aside0 (spec_HasWords.l0 kq l0 t340 (t340.length : Int) x16_1 = some r) ∧ Aside0 (kq ≤ k) ∧ Aside0 (Kd.R (Kd.int .u64) 36 w' w.heap.size (fun _ => True) (.slice Ao6 t340.length co6) t340) ∧ Aside0 (Below w.heap.size w w'));case atStart => exact ⟨(0), rfq, H', ⟨Nat.le_refl _⟩, ⟨RAq HO342.out⟩, ⟨HBq⟩⟩
   case round =>
    clear H';try clear c1
    try clear c2
    try clear p2
    try clear c4
    try clear c4b0
    try clear c4b1
    try clear c4b2
    obtain ⟨x16_1, rfl, HA, HK1, HO_5, HB⟩ := hrel;cases gk with
    | zero => exact absurd HA.out (by simp [spec_HasWords.l0])
    | succ k1 =>
     have H := HA.out;clear HA;simp only [spec_HasWords.l0] at H;by_cases c7 : x16_1 < (t340.length : Int)
     · rw [if_pos c7] at H;have c7b0 : decide (x16_1 < (t340.length : Int)) = true := decide_eq_true c7;clear c7;by_cases c8 : 0 ≤ x16_1
       · rw [if_pos c8] at H;have c8b0 : decide (0 ≤ x16_1) = true := decide_eq_true c8;clear c8;by_cases c9 : x16_1 < (l0.length : Int)
         · rw [if_pos c9] at H;have c9b0 : decide (x16_1 < (l0.length : Int)) = true := decide_eq_true c9;clear c9;by_cases c10 : x16_1 < (t340.length : Int)
           · rw [if_pos c10] at H;have c10b0 : decide (x16_1 < (t340.length : Int)) = true := decide_eq_true c10;clear c10;by_cases c11 : (rd l0 x16_1) = (rd t340 x16_1)
             · rw [if_pos c11] at H;have c11b0 : ((rd l0 x16_1) == (rd t340 x16_1)) = true := beq_iff_eq.mpr c11;have c11b1 : ((rd l0 x16_1) != (rd t340 x16_1)) = false := bne_eq_false_iff_eq.mpr c11;clear c11;have H' := Aside0.mk H;clear H;have p343 : 0 ≤ (x16_1 : Int) := of_decide_eq_true asq;have q343 : x16_1 < (l0.length : Int) := of_decide_eq_true asq;obtain ⟨ad343, e343, hx343_0⟩ := Kd.at_int HR0.out x16_1 p343 q343;cases e343;replace hx343_0 := (HB.out.cell (World.block_lt_of_cell? w _ hx343_0)).trans hx343_0;replace p343 := eq_true p343;replace q343 := eq_true q343;have p344 : 0 ≤ (x16_1 : Int) := of_decide_eq_true asq;have q344 : x16_1 < (t340.length : Int) := of_decide_eq_true asq;obtain ⟨ad344, e344, hx344_0⟩ := Kd.at_int (Kd.R_reads' HO_5.out).2.2 x16_1 p344 q344;cases e344;replace p344 := eq_true p344;replace q344 := eq_true q344;go_wp2
               repeat (go_quiet (fail); try go_wp2)
               go_roundg k1;case measure => have := HK1.out; omega
               case rel => exact ⟨(wrap64 (x16_1 + 1)), rfq, H', ⟨by have := HK1.out; omega⟩, ⟨RAq HO_5.out⟩, ⟨HBq⟩⟩
             · rw [if_neg c11] at H;have c11b0 : ((rd l0 x16_1) == (rd t340 x16_1)) = false := beq_eq_false_iff_ne.mpr c11;have c11b1 : ((rd l0 x16_1) != (rd t340 x16_1)) = true := bne_iff_ne.mpr c11;obtain rfl := Option.some.inj H;have p343 : 0 ≤ (x16_1 : Int) := of_decide_eq_true asq;have q343 : x16_1 < (l0.length : Int) := of_decide_eq_true asq;obtain ⟨ad343, e343, hx343_0⟩ := Kd.at_int HR0.out x16_1 p343 q343;cases e343;replace hx343_0 := (HB.out.cell (World.block_lt_of_cell? w _ hx343_0)).trans hx343_0;replace p343 := eq_true p343;replace q343 := eq_true q343;have p344 : 0 ≤ (x16_1 : Int) := of_decide_eq_true asq;have q344 : x16_1 < (t340.length : Int) := of_decide_eq_true asq;obtain ⟨ad344, e344, hx344_0⟩ := Kd.at_int (Kd.R_reads' HO_5.out).2.2 x16_1 p344 q344;cases e344;replace p344 := eq_true p344;replace q344 := eq_true q344;go_wp2
               repeat (go_quiet (fail); try go_wp2)
               go_ret;exact ⟨by first | rfl | (simp [errW_none, errW_some] <;> rfl) | (simp [*, errW_none, errW_some] <;> rfl), HBq⟩
           · rw [if_neg c10] at H;exact absurd H (by simp)
         · rw [if_neg c9] at H;exact absurd H (by simp)
       · rw [if_neg c8] at H;exact absurd H (by simp)
     · rw [if_neg c7] at H;have c7b0 : decide (x16_1 < (t340.length : Int)) = false := decide_eq_false c7;clear c7;obtain rfl := Option.some.inj H;go_wp2
       repeat (go_quiet (fail); try go_wp2)
       go_ret;exact ⟨by first | rfl | (simp [errW_none, errW_some] <;> rfl) | (simp [*, errW_none, errW_some] <;> rfl), HBq⟩
 · rw [if_neg c4] at H;have c4b0 : ((l0.length : Int) == (t340.length : Int)) = false := beq_eq_false_iff_ne.mpr c4;have c4b1 : ((l0.length : Int) != (t340.length : Int)) = true := bne_iff_ne.mpr c4;have c4b2 : (l0.length == t340.length) = false := by first | simpa using c4 | (simp at c4 ⊢; omega)
   obtain rfl := Option.some.inj H;go_enter Tryz.func27, Tryz.ntmps27;go_wp2_with (first | (go_at_call 39; (with_reducible refine (spec_Words.calls k _ _ l1 t340 _ ?side1 ?side2 A3.out).mono ?_); (case side1 => repeat (first | exact HR1.out | (with_reducible refine Kd.C_alloc ?_ _) | (with_reducible refine Kd.C_drewN ?_ _) | (with_reducible refine Kd.C_drew ?_))); (case side2 => exact HC1.out); rintro e w12 ⟨v341, rfl, ho0, hb⟩; have n0_ := Aside0.mk (Kd.R_lower ho0 (below_size HBq)); have n1_ := Aside0.mk (below_step HBq hb); clear HB; have HO342 := n0_; have HB := n1_; clear n0_ n1_; (try clear hb); (try clear hb2); (try clear hk); (try clear hi); (try clear ho0); obtain ⟨Ao13, co13, eo13⟩ := Kd.R_slice HO342.out; subst eo13));repeat (go_quiet (first | (go_at_call 39; (with_reducible refine (spec_Words.calls k _ _ l1 t340 _ ?side1 ?side2 A3.out).mono ?_); (case side1 => repeat (first | exact HR1.out | (with_reducible refine Kd.C_alloc ?_ _) | (with_reducible refine Kd.C_drewN ?_ _) | (with_reducible refine Kd.C_drew ?_))); (case side2 => exact HC1.out); rintro e w12 ⟨v341, rfl, ho0, hb⟩; have n0_ := Aside0.mk (Kd.R_lower ho0 (below_size HBq)); have n1_ := Aside0.mk (below_step HBq hb); clear HB; have HO342 := n0_; have HB := n1_; clear n0_ n1_; (try clear hb); (try clear hb2); (try clear hk); (try clear hi); (try clear ho0); obtain ⟨Ao13, co13, eo13⟩ := Kd.R_slice HO342.out; subst eo13)); try go_wp2_with (first | (go_at_call 39; (with_reducible refine (spec_Words.calls k _ _ l1 t340 _ ?side1 ?side2 A3.out).mono ?_); (case side1 => repeat (first | exact HR1.out | (with_reducible refine Kd.C_alloc ?_ _) | (with_reducible refine Kd.C_drewN ?_ _) | (with_reducible refine Kd.C_drew ?_))); (case side2 => exact HC1.out); rintro e w12 ⟨v341, rfl, ho0, hb⟩; have n0_ := Aside0.mk (Kd.R_lower ho0 (below_size HBq)); have n1_ := Aside0.mk (below_step HBq hb); clear HB; have HO342 := n0_; have HB := n1_; clear n0_ n1_; (try clear hb); (try clear hb2); (try clear hk); (try clear hi); (try clear ho0); obtain ⟨Ao13, co13, eo13⟩ := Kd.R_slice HO342.out; subst eo13)))
   go_ret;exact ⟨by first | rfl | (simp [errW_none, errW_some] <;> rfl) | (simp [*, errW_none, errW_some] <;> rfl), HBq⟩
end Go.Proofs.YteokhhepnoelhaaGreatDoor.PFnParse
namespace Go.Proofs.YteokhhepnoelhaaGreatDoor.PFnParse
open Go.RowKit Go.Proofs.YteokhhepnoelhaaGreatDoorW.PrintWords Go.Proofs.YteokhhepnoelhaaGreatDoorW.PrintLast
def spec_Cmp.l0 : Nat → List Int → List Int → Int → Option (Int)
 | 0, _, _, _ => none
 | k + 1, x0, x1, x5 => if x5 ≥ 0 then (if 0 ≤ x5 then (if x5 < (x0.length : Int) then (if x5 < (x1.length : Int) then (if (rd x0 x5) < (rd x1 x5) then (some (-1)) else (if (rd x0 x5) > (rd x1 x5) then (some 1) else (spec_Cmp.l0 k x0 x1 (wrap64 (x5 - 1))))) else (none)) else (none)) else (none)) else (some 0)
def spec_Cmp.f (k : Nat) (l0 : List Int) (l1 : List Int) : Option (Int) := if (l0.length : Int) < (l1.length : Int) then (some (-1)) else (if (l0.length : Int) > (l1.length : Int) then (some 1) else (spec_Cmp.l0 k l0 l1 (wrap64 ((l0.length : Int) - 1))))
set_option maxHeartbeats 8000000 in
set_option maxRecDepth 100000 in
theorem spec_Cmp.calls (k : Nat) (A0 : Option Addr) (c0 : Nat) (l0 : List Int) (A1 : Option Addr) (c1 : Nat) (l1 : List Int) (r : Int) (w : World) (hr0 : Kd.C (Kd.int .i64) w A0 l0.length l0) (hc0 : l0.length ≤ c0) (hr1 : Kd.C (Kd.int .i64) w A1 l1.length l1) (hc1 : l1.length ≤ c1) (h : spec_Cmp.f k l0 l1 = some r) :
 Calls Tryz.prog 28 #[.slice A0 l0.length c0, .slice A1 l1.length c1] w fun e w' => e = .returned (.int .i64 r) ∧ Drawn0 w w' := by
 have HR0 := Aside0.mk hr0;have HC0 := Aside0.mk hc0;clear hr0 hc0;have HR1 := Aside0.mk hr1;have HC1 := Aside0.mk hc1;clear hr1 hc1;have H : (if (l0.length : Int) < (l1.length : Int) then (some (-1)) else (if (l0.length : Int) > (l1.length : Int) then (some 1) else (spec_Cmp.l0 k l0 l1 (wrap64 ((l0.length : Int) - 1))))) = some r := h;clear h;by_cases c3 : (l0.length : Int) < (l1.length : Int)
 · rw [if_pos c3] at H;have c3b0 : decide ((l0.length : Int) < (l1.length : Int)) = true := decide_eq_true c3;have c3b1 : decide (l0.length < l1.length) = true := decide_eq_true (Int.ofNat_lt.mp c3);clear c3;obtain rfl := Option.some.inj H;go_enter Tryz.func28, Tryz.ntmps28;go_wp2
   repeat (go_quiet (fail); try go_wp2)
   go_ret;exact ⟨by first | rfl | (simp; done) | (simp [*]; done), by repeat (first | exact Drawn0.refl _ | apply Drawn0.step)⟩
 · rw [if_neg c3] at H;have c3b0 : decide ((l0.length : Int) < (l1.length : Int)) = false := decide_eq_false c3;have c3b1 : decide (l0.length < l1.length) = false := decide_eq_false (fun h => c3 (Int.ofNat_lt.mpr h));clear c3;by_cases c4 : (l0.length : Int) > (l1.length : Int)
   · rw [if_pos c4] at H;have c4b0 : decide ((l1.length : Int) < (l0.length : Int)) = true := decide_eq_true c4;have c4b1 : decide (l1.length < l0.length) = true := decide_eq_true (Int.ofNat_lt.mp c4);clear c4;obtain rfl := Option.some.inj H;go_enter Tryz.func28, Tryz.ntmps28;go_wp2
     repeat (go_quiet (fail); try go_wp2)
     go_ret;exact ⟨by first | rfl | (simp; done) | (simp [*]; done), by repeat (first | exact Drawn0.refl _ | apply Drawn0.step)⟩
   · rw [if_neg c4] at H;have c4b0 : decide ((l1.length : Int) < (l0.length : Int)) = false := decide_eq_false c4;have c4b1 : decide (l1.length < l0.length) = false := decide_eq_false (fun h => c4 (Int.ofNat_lt.mpr h));clear c4;have H' := Aside0.mk H;clear H;go_enter Tryz.func28, Tryz.ntmps28;go_wp2
     repeat (go_quiet (fail); try go_wp2)
     go_loopg [5] k (fun kq v5 w' => ∃ (x5_1 : Int), v5 = .int .i64 x5_1 ∧ Aside0 (spec_Cmp.l0 kq l0 l1 x5_1 = some r) ∧ Aside0 (kq ≤ k) ∧ Drawn0 w w');case atStart => exact ⟨(wrap64 ((l0.length : Int) - 1)), rfq, H', ⟨Nat.le_refl _⟩, by repeat (first | exact Drawn0.refl _ | apply Drawn0.step)⟩
     case round =>
      clear H';try clear c1
      try clear c2
      try clear p2
      try clear c3
      try clear c3b0
      try clear c3b1
      try clear c4
      try clear c4b0
      try clear c4b1
      obtain ⟨x5_1, rfl, HA, HK1, ⟨m1, rfl⟩⟩ := hrel;cases gk with
      | zero => exact absurd HA.out (by simp [spec_Cmp.l0])
      | succ k1 =>
       have H := HA.out;clear HA;simp only [spec_Cmp.l0] at H;by_cases c5 : x5_1 ≥ 0
       · rw [if_pos c5] at H;have c5b0 : decide (0 ≤ x5_1) = true := decide_eq_true c5;clear c5;by_cases c6 : 0 ≤ x5_1
         · rw [if_pos c6] at H;have c6b0 : decide (0 ≤ x5_1) = true := decide_eq_true c6;clear c6;by_cases c7 : x5_1 < (l0.length : Int)
           · rw [if_pos c7] at H;have c7b0 : decide (x5_1 < (l0.length : Int)) = true := decide_eq_true c7;clear c7;by_cases c8 : x5_1 < (l1.length : Int)
             · rw [if_pos c8] at H;have c8b0 : decide (x5_1 < (l1.length : Int)) = true := decide_eq_true c8;clear c8;by_cases c9 : (rd l0 x5_1) < (rd l1 x5_1)
               · rw [if_pos c9] at H;have c9b0 : decide ((rd l0 x5_1) < (rd l1 x5_1)) = true := decide_eq_true c9;clear c9;obtain rfl := Option.some.inj H;have p351 : 0 ≤ (x5_1 : Int) := of_decide_eq_true asq;have q351 : x5_1 < (l0.length : Int) := of_decide_eq_true asq;obtain ⟨ad351, e351, hx351_0⟩ := Kd.at_int HR0.out x5_1 p351 q351;cases e351;replace p351 := eq_true p351;replace q351 := eq_true q351;have p352 : 0 ≤ (x5_1 : Int) := of_decide_eq_true asq;have q352 : x5_1 < (l1.length : Int) := of_decide_eq_true asq;obtain ⟨ad352, e352, hx352_0⟩ := Kd.at_int HR1.out x5_1 p352 q352;cases e352;replace p352 := eq_true p352;replace q352 := eq_true q352;go_wp2
                 repeat (go_quiet (fail); try go_wp2)
                 go_ret;exact ⟨by first | rfl | (simp; done) | (simp [*]; done), by repeat (first | exact Drawn0.refl _ | apply Drawn0.step)⟩
               · rw [if_neg c9] at H;have c9b0 : decide ((rd l0 x5_1) < (rd l1 x5_1)) = false := decide_eq_false c9;clear c9;by_cases c10 : (rd l0 x5_1) > (rd l1 x5_1)
                 · rw [if_pos c10] at H;have c10b0 : decide ((rd l1 x5_1) < (rd l0 x5_1)) = true := decide_eq_true c10;clear c10;obtain rfl := Option.some.inj H;have p351 : 0 ≤ (x5_1 : Int) := of_decide_eq_true asq;have q351 : x5_1 < (l0.length : Int) := of_decide_eq_true asq;obtain ⟨ad351, e351, hx351_0⟩ := Kd.at_int HR0.out x5_1 p351 q351;cases e351;replace p351 := eq_true p351;replace q351 := eq_true q351;have p352 : 0 ≤ (x5_1 : Int) := of_decide_eq_true asq;have q352 : x5_1 < (l1.length : Int) := of_decide_eq_true asq;obtain ⟨ad352, e352, hx352_0⟩ := Kd.at_int HR1.out x5_1 p352 q352;cases e352;replace p352 := eq_true p352;replace q352 := eq_true q352;have p353 : 0 ≤ (x5_1 : Int) := of_decide_eq_true asq;have q353 : x5_1 < (l0.length : Int) := of_decide_eq_true asq;obtain ⟨ad353, e353, hx353_0⟩ := Kd.at_int HR0.out x5_1 p353 q353;obtain rfl : ad351 = ad353 := (by injection e353)
                   replace p353 := eq_true p353;replace q353 := eq_true q353;have p354 : 0 ≤ (x5_1 : Int) := of_decide_eq_true asq;have q354 : x5_1 < (l1.length : Int) := of_decide_eq_true asq;obtain ⟨ad354, e354, hx354_0⟩ := Kd.at_int HR1.out x5_1 p354 q354;obtain rfl : ad352 = ad354 := (by injection e354)
                   replace p354 := eq_true p354;replace q354 := eq_true q354;go_wp2
                   repeat (go_quiet (fail); try go_wp2)
                   go_ret;exact ⟨by first | rfl | (simp; done) | (simp [*]; done), by repeat (first | exact Drawn0.refl _ | apply Drawn0.step)⟩
                 · rw [if_neg c10] at H;have c10b0 : decide ((rd l1 x5_1) < (rd l0 x5_1)) = false := decide_eq_false c10;clear c10;have H' := Aside0.mk H;clear H;have p351 : 0 ≤ (x5_1 : Int) := of_decide_eq_true asq;have q351 : x5_1 < (l0.length : Int) := of_decide_eq_true asq;obtain ⟨ad351, e351, hx351_0⟩ := Kd.at_int HR0.out x5_1 p351 q351;cases e351;replace p351 := eq_true p351;replace q351 := eq_true q351;have p352 : 0 ≤ (x5_1 : Int) := of_decide_eq_true asq;have q352 : x5_1 < (l1.length : Int) := of_decide_eq_true asq;obtain ⟨ad352, e352, hx352_0⟩ := Kd.at_int HR1.out x5_1 p352 q352;cases e352;replace p352 := eq_true p352;replace q352 := eq_true q352;have p353 : 0 ≤ (x5_1 : Int) := of_decide_eq_true asq;have q353 : x5_1 < (l0.length : Int) := of_decide_eq_true asq;obtain ⟨ad353, e353, hx353_0⟩ := Kd.at_int HR0.out x5_1 p353 q353;obtain rfl : ad351 = ad353 := (by injection e353)
                   replace p353 := eq_true p353;replace q353 := eq_true q353;have p354 : 0 ≤ (x5_1 : Int) := of_decide_eq_true asq;have q354 : x5_1 < (l1.length : Int) := of_decide_eq_true asq;obtain ⟨ad354, e354, hx354_0⟩ := Kd.at_int HR1.out x5_1 p354 q354;obtain rfl : ad352 = ad354 := (by injection e354)
                   replace p354 := eq_true p354;replace q354 := eq_true q354;go_wp2
                   repeat (go_quiet (fail); try go_wp2)
                   go_roundg k1;case measure => have := HK1.out; omega
                   case rel => exact ⟨(wrap64 (x5_1 - 1)), rfq, H', ⟨by have := HK1.out; omega⟩, by repeat (first | exact Drawn0.refl _ | apply Drawn0.step)⟩
             · rw [if_neg c8] at H;exact absurd H (by simp)
           · rw [if_neg c7] at H;exact absurd H (by simp)
         · rw [if_neg c6] at H;exact absurd H (by simp)
       · rw [if_neg c5] at H;have c5b0 : decide (0 ≤ x5_1) = false := decide_eq_false c5;clear c5;obtain rfl := Option.some.inj H;go_wp2
         repeat (go_quiet (fail); try go_wp2)
         go_ret;exact ⟨by first | rfl | (simp; done) | (simp [*]; done), by repeat (first | exact Drawn0.refl _ | apply Drawn0.step)⟩
end Go.Proofs.YteokhhepnoelhaaGreatDoor.PFnParse
