/-
  The reference's functions as Lean functions, and that the Go code comes to their answers: the kit's print (print.sh) wrote these texts for this claim; cut here to what is used.
-/
import Derived.Test.YteokhhepnoelhaaGreatDoorRefA
namespace Go.Proofs.YteokhhepnoelhaaGreatDoor.PFnParse
open Go.RowKit Go.Proofs.YteokhhepnoelhaaGreatDoorW.PrintWords Go.Proofs.YteokhhepnoelhaaGreatDoorW.PrintLast

set_option linter.unusedVariables false
set_option linter.unusedSimpArgs false
def spec_OfDec.f (k : Nat) (a0_0 : Int) (a0_1 : Bool) (l0_2 : List Int) (a0_3 : Int) : Option (Bool × List Int × Int × Bool) := (spec_Of.f k l0_2).bind fun t347 => (if a0_0 = 0 then ((spec_HasWords.f k l0_2 t347).bind fun t350 => (some (a0_1, t347, a0_3, t350))) else (some (a0_1, t347, a0_3, false)))
def spec_OfDec.T2 : Bool × List (List Nat × List Nat) := (true, [([], []), ([0], [0]), ([], []), ([], []), ([3], [3]), ([1, 2, 4], [1, 2, 4]), ([], []), ([6], [6]), ([7], [7]), ([8], [8]), ([9], [9]), ([10, 9], [9, 10]), ([9], [9]), ([11, 12, 9, 9], [9, 11, 12]), ([9, 13], [9, 13]), ([5, 13, 0, 1, 2, 3, 4, 5], [5]), ([14, 15, 0, 1, 2, 3, 4, 5, 6, 7, 8, 9, 10, 11, 12, 13, 14, 15], [14])])
def spec_OfDec.B2 : List Nat := [0, 1, 0, 0, 8, 31, 0, 64, 192, 448, 960, 1984, 960, 8128, 16320, 16383, 65535]
theorem spec_OfDec.tab2 : rtab .any (opsOf Tryz.f10 2) = spec_OfDec.T2 := by kernel_rfl
theorem spec_OfDec.bits2 : waitsOk spec_OfDec.T2.2 spec_OfDec.B2 = true := by kernel_rfl
set_option maxHeartbeats 8000000 in
set_option maxRecDepth 100000 in
theorem spec_OfDec.calls (k : Nat) (a0_0 : Int) (a0_1 : Bool) (A0_2 : Option Addr) (c0_2 : Nat) (l0_2 : List Int) (a0_3 : Int) (r1 : Bool) (r2 : List Int) (r3 : Int) (r4 : Bool) (w : World) (hr0_2 : Kd.C (Kd.int .u64) w A0_2 l0_2.length l0_2) (hc0_2 : l0_2.length ≤ c0_2) (h : spec_OfDec.f k a0_0 a0_1 l0_2 a0_3 = some (r1, r2, r3, r4)) :
    Calls Tryz.prog 10 #[.agg #[.int .i64 a0_0, .bool a0_1, .slice A0_2 l0_2.length c0_2, .int .i64 a0_3]] w fun e w' => ∃ v1_ : Value, e = .returned (.tuple #[.agg #[.bool r1, v1_, .int .i64 r3], .bool r4]) ∧ Kd.V (Kd.int .i64) 3 w' w.heap.size (fun k_ => (w.heap.size ≤ k_)) v1_ r2 ∧ Below w.heap.size w w' := by
  have hu30 := Tryz.underlying30
  have hu25 := Tryz.underlying25
  have HR0_2 := Aside0.mk hr0_2
  have HC0_2 := Aside0.mk hc0_2
  clear hr0_2 hc0_2
  have HB := Aside0.mk (Below.refl w.heap.size w)
  have H : ((spec_Of.f k l0_2).bind fun t347 => (if a0_0 = 0 then ((spec_HasWords.f k l0_2 t347).bind fun t350 => (some (a0_1, t347, a0_3, t350))) else (some (a0_1, t347, a0_3, false)))) = some (r1, r2, r3, r4) := h
  clear h
  replace H := Option.bind_eq_some_iff.mp H
  obtain ⟨t347, A20, H⟩ := H
  replace H : (if a0_0 = 0 then ((spec_HasWords.f k l0_2 t347).bind fun t350 => (some (a0_1, t347, a0_3, t350))) else (some (a0_1, t347, a0_3, false))) = some (r1, r2, r3, r4) := H
  have A2 := Aside0.mk A20
  clear A20
  by_cases c3 : a0_0 = 0
  · rw [if_pos c3] at H
    have c3b0 : (a0_0 == 0) = true := beq_iff_eq.mpr c3
    have c3b1 : (a0_0 != 0) = false := bne_eq_false_iff_eq.mpr c3
    clear c3
    replace H := Option.bind_eq_some_iff.mp H
    obtain ⟨t350, A40, H⟩ := H
    replace H : (some (a0_1, t347, a0_3, t350)) = some (r1, r2, r3, r4) := H
    have A4 := Aside0.mk A40
    clear A40
    simp only [Option.some.injEq, Prod.mk.injEq] at H
    obtain ⟨rfl, rfl, rfl, rfl⟩ := H
    go_enter Tryz.func10, Tryz.ntmps10
    try go_wp2_with (first | ((with_reducible refine gate_dst (N := 1) rfl ?_); refine box_event ?hg (N := 1) ?hd (cs := #[.int .i64 a0_0, .bool a0_1, .slice A0_2 l0_2.length c0_2, .int .i64 a0_3]) (t := 30) ?hr ?_; (case hd => rfl); (case hg => rfl); (case hr => first | (go_simp; done) | (go_simp; rfl)); intro gb345 hg w5 hbox hb; have n0_ := Aside0.mk (below_step (by repeat (first | (with_reducible first | exact HB.out | apply below_alloc | apply pw_below_drewN | apply below_drew1) | exact HB.out)) hb); have n1_ := Aside0.mk (hbox); have n2_ := Aside0.mk ((by rw [hg]; exact (below_size (by repeat (first | (with_reducible first | exact HB.out | apply below_alloc | apply pw_below_drewN | apply below_drew1) | exact HB.out))) : w.heap.size ≤ gb345)); have n3_ := Aside0.mk ((by rw [hg]; exact (below_size (by repeat (first | (with_reducible first | exact HB.out | apply below_alloc | apply pw_below_drewN | apply below_drew1) | exact HB.out))) : w.heap.size ≤ gb345)); clear HB; have HB := n0_; have BK345 := n1_; have GW345 := n2_; have GE345 := n3_; clear n0_ n1_ n2_ n3_; clear hb hbox hg) | ((with_reducible refine gate_dst (N := 2) rfl ?_); refine box_event ?hg (N := 2) ?hd (cs := #[.bool false, .slice none 0 0, .int .i64 0]) (t := 25) ?hr ?_; (case hd => rfl); (case hg => rfl); (case hr => first | (go_simp; done) | (go_simp; rfl)); intro gb346 hg w6 hbox hb; have n0_ := Aside0.mk (blk_below (g := gb345) (o := .cells #[.int .i64 a0_0, .bool a0_1, .slice A0_2 l0_2.length c0_2, .int .i64 a0_3] 30 (0, 0)) (by (with_reducible repeat (first | refine blk_drewN ?_ _ | refine blk_drew ?_ | refine blk_alloc ?_ _)); exact BK345.out) hb); have n1_ := Aside0.mk (below_step (by repeat (first | (with_reducible first | exact HB.out | apply below_alloc | apply pw_below_drewN | apply below_drew1 | refine below_set ?_ GE345.out) | exact HB.out)) hb); have n2_ := Aside0.mk (hbox); have n3_ := Aside0.mk ((by rw [hg]; exact (below_size (by repeat (first | (with_reducible first | exact HB.out | apply below_alloc | apply pw_below_drewN | apply below_drew1 | refine below_set ?_ GE345.out) | exact HB.out))) : w.heap.size ≤ gb346)); have n4_ := Aside0.mk ((by rw [hg]; exact (below_size (by repeat (first | (with_reducible first | exact HB.out | apply below_alloc | apply pw_below_drewN | apply below_drew1 | refine below_set ?_ GE345.out) | exact HB.out))) : w.heap.size ≤ gb346)); have n5_ := Aside0.mk ((by rw [hg]; exact Nat.ne_of_lt (blk_lt (g := gb345) (o := .cells #[.int .i64 a0_0, .bool a0_1, .slice A0_2 l0_2.length c0_2, .int .i64 a0_3] 30 (0, 0)) (by (with_reducible repeat (first | refine blk_drewN ?_ _ | refine blk_drew ?_ | refine blk_alloc ?_ _)); exact BK345.out)) : gb345 ≠ gb346)); have n6_ := Aside0.mk ((by rw [hg]; exact Nat.ne_of_gt (blk_lt (g := gb345) (o := .cells #[.int .i64 a0_0, .bool a0_1, .slice A0_2 l0_2.length c0_2, .int .i64 a0_3] 30 (0, 0)) (by (with_reducible repeat (first | refine blk_drewN ?_ _ | refine blk_drew ?_ | refine blk_alloc ?_ _)); exact BK345.out)) : gb346 ≠ gb345)); clear BK345; clear HB; have BK345 := n0_; have HB := n1_; have BK346 := n2_; have GW346 := n3_; have GE346 := n4_; have NB345_346 := n5_; have NB346_345 := n6_; clear n0_ n1_ n2_ n3_ n4_ n5_ n6_; clear hb hbox hg; have hnb7 := NB345_346.out; have hnc7 := NB346_345.out; have hcz8_0 : w6.cell? ⟨gb345, 0, none⟩ = some (.int .i64 a0_0) := (blk_cell BK345.out 0).trans rfl; have hcz8_1 : w6.cell? ⟨gb345, 1, none⟩ = some (.bool a0_1) := (blk_cell BK345.out 1).trans rfl; have hcz8_2 : w6.cell? ⟨gb345, 2, none⟩ = some (.slice A0_2 l0_2.length c0_2) := (blk_cell BK345.out 2).trans rfl; have hcz8_3 : w6.cell? ⟨gb345, 3, none⟩ = some (.int .i64 a0_3) := (blk_cell BK345.out 3).trans rfl; have hfz8_0 := blk_frozen BK345.out 0; have hfz8_1 := blk_frozen BK345.out 1; have hfz8_2 := blk_frozen BK345.out 2; have hfz8_3 := blk_frozen BK345.out 3) | ((with_reducible refine gate_callee (f := 26) rfl ?_); refine goesL_ (some 7) rfl rfl Tryz.func26 (by kernel_rfl) rfl #[.slice A0_2 l0_2.length c0_2] rfl (by (try simp only [List.map_toArray, List.map_cons, List.map_nil]); first | done | rfl | (simp only [List.length_drop, List.length_take]; rfl)) ?_; (with_reducible refine (spec_Of.calls k _ _ l0_2 t347 _ ?side1 ?side2 A2.out).mono ?_); (case side1 => repeat (first | exact (Kd.C_below HR0_2.out HB.out) | (with_reducible refine Kd.C_alloc ?_ _) | (with_reducible refine Kd.C_drewN ?_ _) | (with_reducible refine Kd.C_drew ?_))); (case side2 => exact HC0_2.out); rintro e w9 ⟨v348, rfl, ho0, hb⟩; refine ⟨_, rfl, ?_⟩; have n0_ := Aside0.mk (Kd.V_lower (Kd.V_mono (ok' := fun k_ => (w.heap.size ≤ k_) ∧ k_ ≠ gb345 ∧ k_ ≠ gb346) ho0 (fun k_ hk_ => ⟨(Nat.le_trans (below_size (by repeat (first | (with_reducible first | exact HB.out | apply below_alloc | apply pw_below_drewN | apply below_drew1 | refine below_set ?_ GE345.out | refine below_set ?_ GE346.out) | exact HB.out))) hk_), (Kd.freshB (g := gb345) (o := .cells #[.int .i64 a0_0, .bool a0_1, .slice A0_2 l0_2.length c0_2, .int .i64 a0_3] 30 (0, 0)) (by (with_reducible repeat (first | refine blk_drewN ?_ _ | refine blk_drew ?_ | refine blk_alloc ?_ _)); exact BK345.out) k_ hk_), (Kd.freshB (g := gb346) (o := .cells #[.bool false, .slice none 0 0, .int .i64 0] 25 (0, 0)) (by (with_reducible repeat (first | refine blk_drewN ?_ _ | refine blk_drew ?_ | refine blk_alloc ?_ _)); exact BK346.out) k_ hk_)⟩)) (below_size (by repeat (first | (with_reducible first | exact HB.out | apply below_alloc | apply pw_below_drewN | apply below_drew1 | refine below_set ?_ GE345.out | refine below_set ?_ GE346.out) | exact HB.out)))); have n1_ := Aside0.mk (blk_below (g := gb345) (o := .cells #[.int .i64 a0_0, .bool a0_1, .slice A0_2 l0_2.length c0_2, .int .i64 a0_3] 30 (0, 0)) (by (with_reducible repeat (first | refine blk_drewN ?_ _ | refine blk_drew ?_ | refine blk_alloc ?_ _)); exact BK345.out) hb); have n2_ := Aside0.mk (blk_below (g := gb346) (o := .cells #[.bool false, .slice none 0 0, .int .i64 0] 25 (0, 0)) (by (with_reducible repeat (first | refine blk_drewN ?_ _ | refine blk_drew ?_ | refine blk_alloc ?_ _)); exact BK346.out) hb); have n3_ := Aside0.mk (below_step (by repeat (first | (with_reducible first | exact HB.out | apply below_alloc | apply pw_below_drewN | apply below_drew1 | refine below_set ?_ GE345.out | refine below_set ?_ GE346.out) | exact HB.out)) hb); clear BK345; clear BK346; clear HB; have HO349 := n0_; have BK345 := n1_; have BK346 := n2_; have HB := n3_; clear n0_ n1_ n2_ n3_; (try clear hb); (try clear hb2); (try clear hk); (try clear hi); (try clear ho0)))
    have n0_ := Aside0.mk (Kd.V_drew HO349.out)
    have n1_ := Aside0.mk (blk_drew BK345.out)
    have n2_ := Aside0.mk (blk_drew BK346.out)
    have n3_ := Aside0.mk (below_drew1 HB.out)
    clear HO349
    clear BK345
    clear BK346
    clear HB
    have HO349 := n0_
    have BK345 := n1_
    have BK346 := n2_
    have HB := n3_
    clear n0_ n1_ n2_ n3_
    obtain ⟨Ao11, co11, eo11⟩ := Kd.V_slice HO349.out
    (first | subst eo11 | (injection eo11 with f1_ f2_ f3_; have f4_ := f1_.symm; have f5_ := f3_.symm; clear f1_ f2_ f3_; subst f4_; subst f5_))
    refine start_ (n := 17) (S := fun w' => w'.cell? ⟨gb345, 0, none⟩ = some (.int .i64 a0_0) ∧ w'.cell? ⟨gb345, 1, none⟩ = some (.bool a0_1) ∧ w'.cell? ⟨gb345, 2, none⟩ = some (.slice A0_2 l0_2.length c0_2) ∧ w'.cell? ⟨gb345, 3, none⟩ = some (.int .i64 a0_3)) (ds := []) #[false, false, false, false, false, false, false, false, false, false, false, false, false, false, false, false, false] (by kernel_rfl) rfl rfl ⟨(blk_cell BK345.out 0).trans rfl, (blk_cell BK345.out 1).trans rfl, (blk_cell BK345.out 2).trans rfl, (blk_cell BK345.out 3).trans rfl⟩ (fun hHeld => ?_); refine with_tabW spec_OfDec.tab2 spec_OfDec.bits2 (fun HT_ HW_ => ?_)
    generalize w9.drew = w10 at HO349 BK345 BK346 HB hHeld ⊢
    refine pure_ (i := 0) (N := some 8) (v := ?_) (a' := ?_) #[true, false, false, false, false, false, false, false, false, false, false, false, false, false, false, false, false] rfl rfl (any_of HT_.out (by kernel_rfl)) (fun _ _ _ h => h) (Or.inl ⟨by rfl, ?_⟩) ?_ ?_
    rotate_left
    · intro w'
      go_simp
      with_reducible rfl
    rotate_left
    · simp only [Act.put, List.setIfInBounds_toArray, List.set_cons_zero, List.set_cons_succ, i64_w, i32_w]
      rfl
    refine pure_ (i := 2) (N := some 10) (v := ?_) (a' := ?_) #[true, false, true, false, false, false, false, false, false, false, false, false, false, false, false, false, false] rfl rfl (any_of HT_.out (by kernel_rfl)) (fun _ _ _ h => h) (Or.inl ⟨by rfl, ?_⟩) ?_ ?_
    rotate_left
    · intro w'
      go_simp
      with_reducible rfl
    rotate_left
    · simp only [Act.put, List.setIfInBounds_toArray, List.set_cons_zero, List.set_cons_succ, i64_w, i32_w]
      rfl
    refine pure_ (i := 3) (N := some 11) (v := ?_) (a' := ?_) #[true, false, true, true, false, false, false, false, false, false, false, false, false, false, false, false, false] rfl rfl (any_of HT_.out (by kernel_rfl)) (fun _ _ _ h => h) (Or.inl ⟨by rfl, ?_⟩) ?_ ?_
    rotate_left
    · intro w'
      go_simp
      with_reducible rfl
    rotate_left
    · simp only [Act.put, List.setIfInBounds_toArray, List.set_cons_zero, List.set_cons_succ, i64_w, i32_w]
      rfl
    refine pure_ (i := 6) (N := some 14) (v := ?_) (a' := ?_) #[true, false, true, true, false, false, true, false, false, false, false, false, false, false, false, false, false] rfl rfl (any_of HT_.out (by kernel_rfl)) (fun _ _ _ h => h) (Or.inl ⟨by rfl, ?_⟩) ?_ ?_
    rotate_left
    · intro w'
      go_simp
      with_reducible rfl
    rotate_left
    · simp only [Act.put, List.setIfInBounds_toArray, List.set_cons_zero, List.set_cons_succ, i64_w, i32_w]
      rfl
    refine take_ (i := 1) (N := some 9) (v := ?_) (a' := ?_) #[true, true, true, true, false, false, true, false, false, false, false, false, false, false, false, false, false] rfl rfl (take_ofW HT_.out HW_.out (by kernel_rfl)) (fun _ _ _ h => h) (Or.inl ⟨by rfl, ?_⟩) hHeld ?_ ?_
    rotate_left
    · rintro w' ⟨s0, s1, s2, s3⟩
      go_simp
      with_reducible rfl
    rotate_left
    · simp only [Act.put, List.setIfInBounds_toArray, List.set_cons_zero, List.set_cons_succ, i64_w, i32_w]
      rfl
    refine take_ (i := 4) (N := some 12) (v := ?_) (a' := ?_) #[true, true, true, true, true, false, true, false, false, false, false, false, false, false, false, false, false] rfl rfl (take_ofW HT_.out HW_.out (by kernel_rfl)) (fun _ _ _ h => h) (Or.inl ⟨by rfl, ?_⟩) hHeld ?_ ?_
    rotate_left
    · rintro w' ⟨s0, s1, s2, s3⟩
      go_simp
      with_reducible rfl
    rotate_left
    · simp only [Act.put, List.setIfInBounds_toArray, List.set_cons_zero, List.set_cons_succ, i64_w, i32_w]
      rfl
    refine pure_ (i := 5) (N := some 13) (v := ?_) (a' := ?_) #[true, true, true, true, true, true, true, false, false, false, false, false, false, false, false, false, false] rfl rfl (any_of HT_.out (by kernel_rfl)) (fun _ _ _ h => h) (Or.inl ⟨by rfl, ?_⟩) ?_ ?_
    rotate_left
    · intro w'
      go_simp
      with_reducible rfl
    rotate_left
    · simp only [Act.put, List.setIfInBounds_toArray, List.set_cons_zero, List.set_cons_succ, i64_w, i32_w]
      rfl
    refine take_ (i := 7) (N := some 15) (v := ?_) (a' := ?_) #[true, true, true, true, true, true, true, true, false, false, false, false, false, false, false, false, false] rfl rfl (take_ofW HT_.out HW_.out (by kernel_rfl)) (fun _ _ _ h => h) (Or.inl ⟨by rfl, ?_⟩) hHeld ?_ ?_
    rotate_left
    · rintro w' ⟨s0, s1, s2, s3⟩
      go_simp
      with_reducible rfl
    rotate_left
    · simp only [Act.put, List.setIfInBounds_toArray, List.set_cons_zero, List.set_cons_succ, i64_w, i32_w]
      rfl
    refine pure_ (i := 8) (N := some 16) (v := ?_) (a' := ?_) #[true, true, true, true, true, true, true, true, true, false, false, false, false, false, false, false, false] rfl rfl (any_of HT_.out (by kernel_rfl)) (fun _ _ _ h => h) (Or.inl ⟨by rfl, ?_⟩) ?_ ?_
    rotate_left
    · intro w'
      go_simp
      with_reducible rfl
    rotate_left
    · simp only [Act.put, List.setIfInBounds_toArray, List.set_cons_zero, List.set_cons_succ, i64_w, i32_w]
      rfl
    refine pure_ (i := 9) (N := some 17) (v := ?_) (a' := ?_) #[true, true, true, true, true, true, true, true, true, true, false, false, false, false, false, false, false] rfl rfl (any_of HT_.out (by kernel_rfl)) (fun _ _ _ h => h) (Or.inl ⟨by rfl, ?_⟩) ?_ ?_
    rotate_left
    · intro w'
      go_simp
      with_reducible rfl
    rotate_left
    · simp only [Act.put, List.setIfInBounds_toArray, List.set_cons_zero, List.set_cons_succ, i64_w, i32_w]
      rfl
    refine pure_ (i := 10) (N := some 18) (v := ?_) (a' := ?_) #[true, true, true, true, true, true, true, true, true, true, true, false, false, false, false, false, false] rfl rfl (any_of HT_.out (by kernel_rfl)) (fun _ _ _ h => h) (Or.inl ⟨by rfl, ?_⟩) ?_ ?_
    rotate_left
    · intro w'
      go_simp
      with_reducible rfl
    rotate_left
    · simp only [Act.put, List.setIfInBounds_toArray, List.set_cons_zero, List.set_cons_succ, i64_w, i32_w]
      rfl
    refine pure_ (i := 12) (N := some 20) (v := ?_) (a' := ?_) #[true, true, true, true, true, true, true, true, true, true, true, false, true, false, false, false, false] rfl rfl (any_of HT_.out (by kernel_rfl)) (fun _ _ _ h => h) (Or.inl ⟨by rfl, ?_⟩) ?_ ?_
    rotate_left
    · intro w'
      go_simp
      with_reducible rfl
    rotate_left
    · simp only [Act.put, List.setIfInBounds_toArray, List.set_cons_zero, List.set_cons_succ, i64_w, i32_w]
      rfl
    refine take_ (i := 11) (N := some 19) (v := ?_) (a' := ?_) #[true, true, true, true, true, true, true, true, true, true, true, true, true, false, false, false, false] rfl rfl (take_ofW HT_.out HW_.out (by kernel_rfl)) (fun _ _ _ h => h) (Or.inl ⟨by rfl, ?_⟩) hHeld ?_ ?_
    rotate_left
    · rintro w' ⟨s0, s1, s2, s3⟩
      go_simp
      with_reducible rfl
    rotate_left
    · simp only [Act.put, List.setIfInBounds_toArray, List.set_cons_zero, List.set_cons_succ, i64_w, i32_w]
      rfl
    refine one_ (i := 13) (N := some 21) #[true, true, true, true, true, true, true, true, true, true, true, true, true, true, false, false, false] rfl rfl (one_of HT_.out (by kernel_rfl)) (by decide) (fun K hK => ?_)
    refine goes_ Tryz.func27 (by kernel_rfl) rfl #[.slice A0_2 l0_2.length c0_2, .slice Ao11 t347.length co11] (by rfl) rfl rfl (by (try simp only [List.map_toArray, List.map_cons, List.map_nil]); first | done | rfl | (simp only [List.length_drop, List.length_take]; rfl)) ?_
    with_reducible refine (spec_HasWords.calls k _ _ l0_2 _ _ t347 t350 _ ?side1 ?side2 ?side3 ?side4 A4.out).mono ?_
    (case side1 => repeat (first | exact (Kd.C_below HR0_2.out HB.out) | (with_reducible refine Kd.C_alloc ?_ _) | (with_reducible refine Kd.C_drewN ?_ _) | (with_reducible refine Kd.C_drew ?_)))
    (case side2 => exact HC0_2.out)
    (case side3 => repeat (first | exact (Kd.V_reads' HO349.out).2.2 | (with_reducible refine Kd.C_alloc ?_ _) | (with_reducible refine Kd.C_drewN ?_ _) | (with_reducible refine Kd.C_drew ?_)))
    (case side4 => exact (Kd.V_reads' HO349.out).2.1)
    rintro e w12 ⟨rfl, hb⟩
    refine ⟨_, rfl, ?_⟩
    have n0_ := Aside0.mk (Kd.V_below (by (with_reducible repeat (first | apply Kd.V_alloc | apply Kd.V_drewN | apply Kd.V_drew)); exact HO349.out) hb)
    have n1_ := Aside0.mk (blk_below (g := gb345) (o := .cells #[.int .i64 a0_0, .bool a0_1, .slice A0_2 l0_2.length c0_2, .int .i64 a0_3] 30 (0, 0)) (by (with_reducible repeat (first | refine blk_drewN ?_ _ | refine blk_drew ?_ | refine blk_alloc ?_ _)); exact BK345.out) hb)
    have n2_ := Aside0.mk (blk_below (g := gb346) (o := .cells #[.bool false, .slice none 0 0, .int .i64 0] 25 (0, 0)) (by (with_reducible repeat (first | refine blk_drewN ?_ _ | refine blk_drew ?_ | refine blk_alloc ?_ _)); exact BK346.out) hb)
    have n3_ := Aside0.mk (below_step (by repeat (first | (with_reducible first | exact HB.out | apply below_alloc | apply pw_below_drewN | apply below_drew1 | refine below_set ?_ GE345.out | refine below_set ?_ GE346.out) | exact HB.out)) hb)
    clear HO349
    clear BK345
    clear BK346
    clear HB
    have HO349 := n0_
    have BK345 := n1_
    have BK346 := n2_
    have HB := n3_
    clear n0_ n1_ n2_ n3_
    (try clear hb)
    (try clear hb2)
    (try clear hk)
    (try clear hi)
    refine hK.out _ _ ⟨(blk_cell BK345.out 0).trans rfl, (blk_cell BK345.out 1).trans rfl, (blk_cell BK345.out 2).trans rfl, (blk_cell BK345.out 3).trans rfl⟩ (fun hHeld => ?_)
    clear hK K
    refine norm_ (a' := ?_) ?_ ?_
    rotate_left
    · show Act.put _ (some 21) _ = _
      simp only [Act.put, List.setIfInBounds_toArray, List.set_cons_zero, List.set_cons_succ, i64_w, i32_w]
      rfl
    refine pure_ (i := 14) (N := some 22) (v := ?_) (a' := ?_) #[true, true, true, true, true, true, true, true, true, true, true, true, true, true, true, false, false] rfl rfl (any_of HT_.out (by kernel_rfl)) (fun _ _ _ h => h) (Or.inl ⟨by rfl, ?_⟩) ?_ ?_
    rotate_left
    · intro w'
      go_simp
      with_reducible rfl
    rotate_left
    · simp only [Act.put, List.setIfInBounds_toArray, List.set_cons_zero, List.set_cons_succ, i64_w, i32_w]
      rfl
    refine one_ (i := 15) (N := none) #[true, true, true, true, true, true, true, true, true, true, true, true, true, true, true, true, false] rfl rfl (one_of HT_.out (by kernel_rfl)) (by decide) (fun K hK => ?_)
    have hs13 : w12.cell? ⟨gb346, 0, none⟩ = some (.bool false) := (blk_cell BK346.out 0).trans rfl
    have hfs13 := blk_frozen BK346.out 0
    have hns13_0 := NB345_346.out
    have hms13_0 := NB346_345.out
    have hs14 : w12.cell? ⟨gb346, 1, none⟩ = some (.slice none 0 0) := (blk_cell BK346.out 1).trans rfl
    have hfs14 := blk_frozen BK346.out 1
    have hns14_0 := NB345_346.out
    have hms14_0 := NB346_345.out
    have hs15 : w12.cell? ⟨gb346, 2, none⟩ = some (.int .i64 0) := (blk_cell BK346.out 2).trans rfl
    have hfs15 := blk_frozen BK346.out 2
    have hns15_0 := NB345_346.out
    have hms15_0 := NB346_345.out
    refine skip_ (w1 := ?_) (by rfl) rfl ?_ ?_
    rotate_left
    · go_simp
      rfl
    refine hK.out _ _ ⟨((cell_far (p := ⟨gb346, _, none⟩) NB345_346.out _).trans (((cell_far (p := ⟨gb346, _, none⟩) NB345_346.out _).trans (((cell_far (p := ⟨gb346, _, none⟩) NB345_346.out _).trans (hHeld.1)))))), ((cell_far (p := ⟨gb346, _, none⟩) NB345_346.out _).trans (((cell_far (p := ⟨gb346, _, none⟩) NB345_346.out _).trans (((cell_far (p := ⟨gb346, _, none⟩) NB345_346.out _).trans (hHeld.2.1)))))), ((cell_far (p := ⟨gb346, _, none⟩) NB345_346.out _).trans (((cell_far (p := ⟨gb346, _, none⟩) NB345_346.out _).trans (((cell_far (p := ⟨gb346, _, none⟩) NB345_346.out _).trans (hHeld.2.2.1)))))), ((cell_far (p := ⟨gb346, _, none⟩) NB345_346.out _).trans (((cell_far (p := ⟨gb346, _, none⟩) NB345_346.out _).trans (((cell_far (p := ⟨gb346, _, none⟩) NB345_346.out _).trans (hHeld.2.2.2))))))⟩ (fun hHeld => ?_)
    clear hK K
    refine pure_ (i := 16) (N := some 3) (v := ?_) (a' := ?_) #[true, true, true, true, true, true, true, true, true, true, true, true, true, true, true, true, true] rfl rfl (any_of HT_.out (by kernel_rfl)) (fun _ _ _ h => h) (Or.inl ⟨by rfl, ?_⟩) ?_ ?_
    rotate_left
    · intro w'
      go_simp
      with_reducible rfl
    rotate_left
    · simp only [Act.put, List.setIfInBounds_toArray, List.set_cons_zero, List.set_cons_succ, i64_w, i32_w]
      rfl
    refine done_ (done_of HT_.out (by kernel_rfl)) ?_
    try go_wp2
    refine bodyPost_ret (results_ct rfl _ _ gb346 25 #[.bool a0_1, .slice Ao11 t347.length co11, .int .i64 a0_3] (0, 0) _ rfl (by (with_reducible repeat (first | refine blk_drewN ?_ _ | refine blk_drew ?_ | refine blk_alloc ?_ _)); refine blk_put (cs := #[.bool a0_1, .slice Ao11 t347.length co11, .int .i64 0]) ?_ 2 _ rfl; (with_reducible repeat (first | refine blk_drewN ?_ _ | refine blk_drew ?_ | refine blk_alloc ?_ _)); refine blk_put (cs := #[.bool a0_1, .slice none 0 0, .int .i64 0]) ?_ 1 _ rfl; (with_reducible repeat (first | refine blk_drewN ?_ _ | refine blk_drew ?_ | refine blk_alloc ?_ _)); refine blk_put (cs := #[.bool false, .slice none 0 0, .int .i64 0]) ?_ 0 _ rfl; (with_reducible repeat (first | refine blk_drewN ?_ _ | refine blk_drew ?_ | refine blk_alloc ?_ _)); exact BK346.out) Tryz.underlying25 rfl (by kernel_rfl)) rfl ?_
    exact ⟨_, by first | rfl | (simp [errW_none, errW_some] <;> rfl) | (simp [*, errW_none, errW_some] <;> rfl), by (with_reducible repeat (first | apply Kd.V_alloc | apply Kd.V_drewN | apply Kd.V_drew)); exact Kd.V_mono (Kd.V_far (p := ⟨gb346, 2, none⟩) (Kd.V_far (p := ⟨gb346, 1, none⟩) (Kd.V_far (p := ⟨gb346, 0, none⟩) (Kd.V_mono HO349.out (fun k_ hk => (⟨hk, hk.2.2⟩ : _ ∧ k_ ≠ gb346))) (fun _ hk => hk.2) (.bool a0_1)) (fun _ hk => hk.2) (.slice Ao11 t347.length co11)) (fun _ hk => hk.2) (.int .i64 a0_3)) (fun _ hk => hk.1.1), by repeat (first | (with_reducible first | exact HB.out | apply below_alloc | apply pw_below_drewN | apply below_drew1 | refine below_set ?_ GE345.out | refine below_set ?_ GE346.out) | exact HB.out)⟩
  · rw [if_neg c3] at H
    have c3b0 : (a0_0 == 0) = false := beq_eq_false_iff_ne.mpr c3
    have c3b1 : (a0_0 != 0) = true := bne_iff_ne.mpr c3
    simp only [Option.some.injEq, Prod.mk.injEq] at H
    obtain ⟨rfl, rfl, rfl, rfl⟩ := H
    go_enter Tryz.func10, Tryz.ntmps10
    try go_wp2_with (first | ((with_reducible refine gate_dst (N := 1) rfl ?_); refine box_event ?hg (N := 1) ?hd (cs := #[.int .i64 a0_0, .bool a0_1, .slice A0_2 l0_2.length c0_2, .int .i64 a0_3]) (t := 30) ?hr ?_; (case hd => rfl); (case hg => rfl); (case hr => first | (go_simp; done) | (go_simp; rfl)); intro gb345 hg w16 hbox hb; have n0_ := Aside0.mk (below_step (by repeat (first | (with_reducible first | exact HB.out | apply below_alloc | apply pw_below_drewN | apply below_drew1) | exact HB.out)) hb); have n1_ := Aside0.mk (hbox); have n2_ := Aside0.mk ((by rw [hg]; exact (below_size (by repeat (first | (with_reducible first | exact HB.out | apply below_alloc | apply pw_below_drewN | apply below_drew1) | exact HB.out))) : w.heap.size ≤ gb345)); have n3_ := Aside0.mk ((by rw [hg]; exact (below_size (by repeat (first | (with_reducible first | exact HB.out | apply below_alloc | apply pw_below_drewN | apply below_drew1) | exact HB.out))) : w.heap.size ≤ gb345)); clear HB; have HB := n0_; have BK345 := n1_; have GW345 := n2_; have GE345 := n3_; clear n0_ n1_ n2_ n3_; clear hb hbox hg) | ((with_reducible refine gate_dst (N := 2) rfl ?_); refine box_event ?hg (N := 2) ?hd (cs := #[.bool false, .slice none 0 0, .int .i64 0]) (t := 25) ?hr ?_; (case hd => rfl); (case hg => rfl); (case hr => first | (go_simp; done) | (go_simp; rfl)); intro gb346 hg w17 hbox hb; have n0_ := Aside0.mk (blk_below (g := gb345) (o := .cells #[.int .i64 a0_0, .bool a0_1, .slice A0_2 l0_2.length c0_2, .int .i64 a0_3] 30 (0, 0)) (by (with_reducible repeat (first | refine blk_drewN ?_ _ | refine blk_drew ?_ | refine blk_alloc ?_ _)); exact BK345.out) hb); have n1_ := Aside0.mk (below_step (by repeat (first | (with_reducible first | exact HB.out | apply below_alloc | apply pw_below_drewN | apply below_drew1 | refine below_set ?_ GE345.out) | exact HB.out)) hb); have n2_ := Aside0.mk (hbox); have n3_ := Aside0.mk ((by rw [hg]; exact (below_size (by repeat (first | (with_reducible first | exact HB.out | apply below_alloc | apply pw_below_drewN | apply below_drew1 | refine below_set ?_ GE345.out) | exact HB.out))) : w.heap.size ≤ gb346)); have n4_ := Aside0.mk ((by rw [hg]; exact (below_size (by repeat (first | (with_reducible first | exact HB.out | apply below_alloc | apply pw_below_drewN | apply below_drew1 | refine below_set ?_ GE345.out) | exact HB.out))) : w.heap.size ≤ gb346)); have n5_ := Aside0.mk ((by rw [hg]; exact Nat.ne_of_lt (blk_lt (g := gb345) (o := .cells #[.int .i64 a0_0, .bool a0_1, .slice A0_2 l0_2.length c0_2, .int .i64 a0_3] 30 (0, 0)) (by (with_reducible repeat (first | refine blk_drewN ?_ _ | refine blk_drew ?_ | refine blk_alloc ?_ _)); exact BK345.out)) : gb345 ≠ gb346)); have n6_ := Aside0.mk ((by rw [hg]; exact Nat.ne_of_gt (blk_lt (g := gb345) (o := .cells #[.int .i64 a0_0, .bool a0_1, .slice A0_2 l0_2.length c0_2, .int .i64 a0_3] 30 (0, 0)) (by (with_reducible repeat (first | refine blk_drewN ?_ _ | refine blk_drew ?_ | refine blk_alloc ?_ _)); exact BK345.out)) : gb346 ≠ gb345)); clear BK345; clear HB; have BK345 := n0_; have HB := n1_; have BK346 := n2_; have GW346 := n3_; have GE346 := n4_; have NB345_346 := n5_; have NB346_345 := n6_; clear n0_ n1_ n2_ n3_ n4_ n5_ n6_; clear hb hbox hg; have hnb18 := NB345_346.out; have hnc18 := NB346_345.out; have hcz19_0 : w17.cell? ⟨gb345, 0, none⟩ = some (.int .i64 a0_0) := (blk_cell BK345.out 0).trans rfl; have hcz19_1 : w17.cell? ⟨gb345, 1, none⟩ = some (.bool a0_1) := (blk_cell BK345.out 1).trans rfl; have hcz19_2 : w17.cell? ⟨gb345, 2, none⟩ = some (.slice A0_2 l0_2.length c0_2) := (blk_cell BK345.out 2).trans rfl; have hcz19_3 : w17.cell? ⟨gb345, 3, none⟩ = some (.int .i64 a0_3) := (blk_cell BK345.out 3).trans rfl; have hfz19_0 := blk_frozen BK345.out 0; have hfz19_1 := blk_frozen BK345.out 1; have hfz19_2 := blk_frozen BK345.out 2; have hfz19_3 := blk_frozen BK345.out 3) | ((with_reducible refine gate_callee (f := 26) rfl ?_); refine goesL_ (some 7) rfl rfl Tryz.func26 (by kernel_rfl) rfl #[.slice A0_2 l0_2.length c0_2] rfl (by (try simp only [List.map_toArray, List.map_cons, List.map_nil]); first | done | rfl | (simp only [List.length_drop, List.length_take]; rfl)) ?_; (with_reducible refine (spec_Of.calls k _ _ l0_2 t347 _ ?side1 ?side2 A2.out).mono ?_); (case side1 => repeat (first | exact (Kd.C_below HR0_2.out HB.out) | (with_reducible refine Kd.C_alloc ?_ _) | (with_reducible refine Kd.C_drewN ?_ _) | (with_reducible refine Kd.C_drew ?_))); (case side2 => exact HC0_2.out); rintro e w20 ⟨v348, rfl, ho0, hb⟩; refine ⟨_, rfl, ?_⟩; have n0_ := Aside0.mk (Kd.V_lower (Kd.V_mono (ok' := fun k_ => (w.heap.size ≤ k_) ∧ k_ ≠ gb345 ∧ k_ ≠ gb346) ho0 (fun k_ hk_ => ⟨(Nat.le_trans (below_size (by repeat (first | (with_reducible first | exact HB.out | apply below_alloc | apply pw_below_drewN | apply below_drew1 | refine below_set ?_ GE345.out | refine below_set ?_ GE346.out) | exact HB.out))) hk_), (Kd.freshB (g := gb345) (o := .cells #[.int .i64 a0_0, .bool a0_1, .slice A0_2 l0_2.length c0_2, .int .i64 a0_3] 30 (0, 0)) (by (with_reducible repeat (first | refine blk_drewN ?_ _ | refine blk_drew ?_ | refine blk_alloc ?_ _)); exact BK345.out) k_ hk_), (Kd.freshB (g := gb346) (o := .cells #[.bool false, .slice none 0 0, .int .i64 0] 25 (0, 0)) (by (with_reducible repeat (first | refine blk_drewN ?_ _ | refine blk_drew ?_ | refine blk_alloc ?_ _)); exact BK346.out) k_ hk_)⟩)) (below_size (by repeat (first | (with_reducible first | exact HB.out | apply below_alloc | apply pw_below_drewN | apply below_drew1 | refine below_set ?_ GE345.out | refine below_set ?_ GE346.out) | exact HB.out)))); have n1_ := Aside0.mk (blk_below (g := gb345) (o := .cells #[.int .i64 a0_0, .bool a0_1, .slice A0_2 l0_2.length c0_2, .int .i64 a0_3] 30 (0, 0)) (by (with_reducible repeat (first | refine blk_drewN ?_ _ | refine blk_drew ?_ | refine blk_alloc ?_ _)); exact BK345.out) hb); have n2_ := Aside0.mk (blk_below (g := gb346) (o := .cells #[.bool false, .slice none 0 0, .int .i64 0] 25 (0, 0)) (by (with_reducible repeat (first | refine blk_drewN ?_ _ | refine blk_drew ?_ | refine blk_alloc ?_ _)); exact BK346.out) hb); have n3_ := Aside0.mk (below_step (by repeat (first | (with_reducible first | exact HB.out | apply below_alloc | apply pw_below_drewN | apply below_drew1 | refine below_set ?_ GE345.out | refine below_set ?_ GE346.out) | exact HB.out)) hb); clear BK345; clear BK346; clear HB; have HO349 := n0_; have BK345 := n1_; have BK346 := n2_; have HB := n3_; clear n0_ n1_ n2_ n3_; (try clear hb); (try clear hb2); (try clear hk); (try clear hi); (try clear ho0)))
    have n0_ := Aside0.mk (Kd.V_drew HO349.out)
    have n1_ := Aside0.mk (blk_drew BK345.out)
    have n2_ := Aside0.mk (blk_drew BK346.out)
    have n3_ := Aside0.mk (below_drew1 HB.out)
    clear HO349
    clear BK345
    clear BK346
    clear HB
    have HO349 := n0_
    have BK345 := n1_
    have BK346 := n2_
    have HB := n3_
    clear n0_ n1_ n2_ n3_
    obtain ⟨Ao22, co22, eo22⟩ := Kd.V_slice HO349.out
    (first | subst eo22 | (injection eo22 with f1_ f2_ f3_; have f4_ := f1_.symm; have f5_ := f3_.symm; clear f1_ f2_ f3_; subst f4_; subst f5_))
    refine start_ (n := 17) (S := fun w' => w'.cell? ⟨gb345, 0, none⟩ = some (.int .i64 a0_0) ∧ w'.cell? ⟨gb345, 1, none⟩ = some (.bool a0_1) ∧ w'.cell? ⟨gb345, 2, none⟩ = some (.slice A0_2 l0_2.length c0_2) ∧ w'.cell? ⟨gb345, 3, none⟩ = some (.int .i64 a0_3)) (ds := []) #[false, false, false, false, false, false, false, false, false, false, false, false, false, false, false, false, false] (by kernel_rfl) rfl rfl ⟨(blk_cell BK345.out 0).trans rfl, (blk_cell BK345.out 1).trans rfl, (blk_cell BK345.out 2).trans rfl, (blk_cell BK345.out 3).trans rfl⟩ (fun hHeld => ?_); refine with_tabW spec_OfDec.tab2 spec_OfDec.bits2 (fun HT_ HW_ => ?_)
    generalize w20.drew = w21 at HO349 BK345 BK346 HB hHeld ⊢
    refine pure_ (i := 0) (N := some 8) (v := ?_) (a' := ?_) #[true, false, false, false, false, false, false, false, false, false, false, false, false, false, false, false, false] rfl rfl (any_of HT_.out (by kernel_rfl)) (fun _ _ _ h => h) (Or.inl ⟨by rfl, ?_⟩) ?_ ?_
    rotate_left
    · intro w'
      go_simp
      with_reducible rfl
    rotate_left
    · simp only [Act.put, List.setIfInBounds_toArray, List.set_cons_zero, List.set_cons_succ, i64_w, i32_w]
      rfl
    refine pure_ (i := 2) (N := some 10) (v := ?_) (a' := ?_) #[true, false, true, false, false, false, false, false, false, false, false, false, false, false, false, false, false] rfl rfl (any_of HT_.out (by kernel_rfl)) (fun _ _ _ h => h) (Or.inl ⟨by rfl, ?_⟩) ?_ ?_
    rotate_left
    · intro w'
      go_simp
      with_reducible rfl
    rotate_left
    · simp only [Act.put, List.setIfInBounds_toArray, List.set_cons_zero, List.set_cons_succ, i64_w, i32_w]
      rfl
    refine pure_ (i := 3) (N := some 11) (v := ?_) (a' := ?_) #[true, false, true, true, false, false, false, false, false, false, false, false, false, false, false, false, false] rfl rfl (any_of HT_.out (by kernel_rfl)) (fun _ _ _ h => h) (Or.inl ⟨by rfl, ?_⟩) ?_ ?_
    rotate_left
    · intro w'
      go_simp
      with_reducible rfl
    rotate_left
    · simp only [Act.put, List.setIfInBounds_toArray, List.set_cons_zero, List.set_cons_succ, i64_w, i32_w]
      rfl
    refine pure_ (i := 6) (N := some 14) (v := ?_) (a' := ?_) #[true, false, true, true, false, false, true, false, false, false, false, false, false, false, false, false, false] rfl rfl (any_of HT_.out (by kernel_rfl)) (fun _ _ _ h => h) (Or.inl ⟨by rfl, ?_⟩) ?_ ?_
    rotate_left
    · intro w'
      go_simp
      with_reducible rfl
    rotate_left
    · simp only [Act.put, List.setIfInBounds_toArray, List.set_cons_zero, List.set_cons_succ, i64_w, i32_w]
      rfl
    refine take_ (i := 1) (N := some 9) (v := ?_) (a' := ?_) #[true, true, true, true, false, false, true, false, false, false, false, false, false, false, false, false, false] rfl rfl (take_ofW HT_.out HW_.out (by kernel_rfl)) (fun _ _ _ h => h) (Or.inl ⟨by rfl, ?_⟩) hHeld ?_ ?_
    rotate_left
    · rintro w' ⟨s0, s1, s2, s3⟩
      go_simp
      with_reducible rfl
    rotate_left
    · simp only [Act.put, List.setIfInBounds_toArray, List.set_cons_zero, List.set_cons_succ, i64_w, i32_w]
      rfl
    refine take_ (i := 4) (N := some 12) (v := ?_) (a' := ?_) #[true, true, true, true, true, false, true, false, false, false, false, false, false, false, false, false, false] rfl rfl (take_ofW HT_.out HW_.out (by kernel_rfl)) (fun _ _ _ h => h) (Or.inl ⟨by rfl, ?_⟩) hHeld ?_ ?_
    rotate_left
    · rintro w' ⟨s0, s1, s2, s3⟩
      go_simp
      with_reducible rfl
    rotate_left
    · simp only [Act.put, List.setIfInBounds_toArray, List.set_cons_zero, List.set_cons_succ, i64_w, i32_w]
      rfl
    refine pure_ (i := 5) (N := some 13) (v := ?_) (a' := ?_) #[true, true, true, true, true, true, true, false, false, false, false, false, false, false, false, false, false] rfl rfl (any_of HT_.out (by kernel_rfl)) (fun _ _ _ h => h) (Or.inl ⟨by rfl, ?_⟩) ?_ ?_
    rotate_left
    · intro w'
      go_simp
      with_reducible rfl
    rotate_left
    · simp only [Act.put, List.setIfInBounds_toArray, List.set_cons_zero, List.set_cons_succ, i64_w, i32_w]
      rfl
    refine take_ (i := 7) (N := some 15) (v := ?_) (a' := ?_) #[true, true, true, true, true, true, true, true, false, false, false, false, false, false, false, false, false] rfl rfl (take_ofW HT_.out HW_.out (by kernel_rfl)) (fun _ _ _ h => h) (Or.inl ⟨by rfl, ?_⟩) hHeld ?_ ?_
    rotate_left
    · rintro w' ⟨s0, s1, s2, s3⟩
      go_simp
      with_reducible rfl
    rotate_left
    · simp only [Act.put, List.setIfInBounds_toArray, List.set_cons_zero, List.set_cons_succ, i64_w, i32_w]
      rfl
    refine pure_ (i := 8) (N := some 16) (v := ?_) (a' := ?_) #[true, true, true, true, true, true, true, true, true, false, false, false, false, false, false, false, false] rfl rfl (any_of HT_.out (by kernel_rfl)) (fun _ _ _ h => h) (Or.inl ⟨by rfl, ?_⟩) ?_ ?_
    rotate_left
    · intro w'
      go_simp
      with_reducible rfl
    rotate_left
    · simp only [Act.put, List.setIfInBounds_toArray, List.set_cons_zero, List.set_cons_succ, i64_w, i32_w]
      rfl
    refine pure_ (i := 9) (N := some 17) (v := ?_) (a' := ?_) #[true, true, true, true, true, true, true, true, true, true, false, false, false, false, false, false, false] rfl rfl (any_of HT_.out (by kernel_rfl)) (fun _ _ _ h => h) (Or.inl ⟨by rfl, ?_⟩) ?_ ?_
    rotate_left
    · intro w'
      go_simp
      with_reducible rfl
    rotate_left
    · simp only [Act.put, List.setIfInBounds_toArray, List.set_cons_zero, List.set_cons_succ, i64_w, i32_w]
      rfl
    refine pure_ (i := 10) (N := some 18) (v := undef) (a' := ?_) #[true, true, true, true, true, true, true, true, true, true, true, false, false, false, false, false, false] rfl rfl (any_of HT_.out (by kernel_rfl)) (fun _ _ _ h => h) (Or.inr ⟨by rfl, rfl⟩) ?_ ?_
    rotate_left
    · simp only [Act.put, List.setIfInBounds_toArray, List.set_cons_zero, List.set_cons_succ, i64_w, i32_w]
      rfl
    refine pure_ (i := 11) (N := some 19) (v := undef) (a' := ?_) #[true, true, true, true, true, true, true, true, true, true, true, true, false, false, false, false, false] rfl rfl (any_of HT_.out (by kernel_rfl)) (fun _ _ _ h => h) (Or.inr ⟨by rfl, rfl⟩) ?_ ?_
    rotate_left
    · simp only [Act.put, List.setIfInBounds_toArray, List.set_cons_zero, List.set_cons_succ, i64_w, i32_w]
      rfl
    refine pure_ (i := 12) (N := some 20) (v := undef) (a' := ?_) #[true, true, true, true, true, true, true, true, true, true, true, true, true, false, false, false, false] rfl rfl (any_of HT_.out (by kernel_rfl)) (fun _ _ _ h => h) (Or.inr ⟨by rfl, rfl⟩) ?_ ?_
    rotate_left
    · simp only [Act.put, List.setIfInBounds_toArray, List.set_cons_zero, List.set_cons_succ, i64_w, i32_w]
      rfl
    refine pure_ (i := 13) (N := some 21) (v := undef) (a' := ?_) #[true, true, true, true, true, true, true, true, true, true, true, true, true, true, false, false, false] rfl rfl (any_of HT_.out (by kernel_rfl)) (fun _ _ _ h => h) (Or.inr ⟨by rfl, rfl⟩) ?_ ?_
    rotate_left
    · simp only [Act.put, List.setIfInBounds_toArray, List.set_cons_zero, List.set_cons_succ, i64_w, i32_w]
      rfl
    refine pure_ (i := 14) (N := some 22) (v := ?_) (a' := ?_) #[true, true, true, true, true, true, true, true, true, true, true, true, true, true, true, false, false] rfl rfl (any_of HT_.out (by kernel_rfl)) (fun _ _ _ h => h) (Or.inl ⟨by rfl, ?_⟩) ?_ ?_
    rotate_left
    · intro w'
      go_simp
      with_reducible rfl
    rotate_left
    · simp only [Act.put, List.setIfInBounds_toArray, List.set_cons_zero, List.set_cons_succ, i64_w, i32_w]
      rfl
    refine one_ (i := 15) (N := none) #[true, true, true, true, true, true, true, true, true, true, true, true, true, true, true, true, false] rfl rfl (one_of HT_.out (by kernel_rfl)) (by decide) (fun K hK => ?_)
    have hs23 : w21.cell? ⟨gb346, 0, none⟩ = some (.bool false) := (blk_cell BK346.out 0).trans rfl
    have hfs23 := blk_frozen BK346.out 0
    have hns23_0 := NB345_346.out
    have hms23_0 := NB346_345.out
    have hs24 : w21.cell? ⟨gb346, 1, none⟩ = some (.slice none 0 0) := (blk_cell BK346.out 1).trans rfl
    have hfs24 := blk_frozen BK346.out 1
    have hns24_0 := NB345_346.out
    have hms24_0 := NB346_345.out
    have hs25 : w21.cell? ⟨gb346, 2, none⟩ = some (.int .i64 0) := (blk_cell BK346.out 2).trans rfl
    have hfs25 := blk_frozen BK346.out 2
    have hns25_0 := NB345_346.out
    have hms25_0 := NB346_345.out
    refine skip_ (w1 := ?_) (by rfl) rfl ?_ ?_
    rotate_left
    · go_simp
      rfl
    refine hK.out _ _ ⟨((cell_far (p := ⟨gb346, _, none⟩) NB345_346.out _).trans (((cell_far (p := ⟨gb346, _, none⟩) NB345_346.out _).trans (((cell_far (p := ⟨gb346, _, none⟩) NB345_346.out _).trans (hHeld.1)))))), ((cell_far (p := ⟨gb346, _, none⟩) NB345_346.out _).trans (((cell_far (p := ⟨gb346, _, none⟩) NB345_346.out _).trans (((cell_far (p := ⟨gb346, _, none⟩) NB345_346.out _).trans (hHeld.2.1)))))), ((cell_far (p := ⟨gb346, _, none⟩) NB345_346.out _).trans (((cell_far (p := ⟨gb346, _, none⟩) NB345_346.out _).trans (((cell_far (p := ⟨gb346, _, none⟩) NB345_346.out _).trans (hHeld.2.2.1)))))), ((cell_far (p := ⟨gb346, _, none⟩) NB345_346.out _).trans (((cell_far (p := ⟨gb346, _, none⟩) NB345_346.out _).trans (((cell_far (p := ⟨gb346, _, none⟩) NB345_346.out _).trans (hHeld.2.2.2))))))⟩ (fun hHeld => ?_)
    clear hK K
    refine pure_ (i := 16) (N := some 3) (v := ?_) (a' := ?_) #[true, true, true, true, true, true, true, true, true, true, true, true, true, true, true, true, true] rfl rfl (any_of HT_.out (by kernel_rfl)) (fun _ _ _ h => h) (Or.inl ⟨by rfl, ?_⟩) ?_ ?_
    rotate_left
    · intro w'
      go_simp
      with_reducible rfl
    rotate_left
    · simp only [Act.put, List.setIfInBounds_toArray, List.set_cons_zero, List.set_cons_succ, i64_w, i32_w]
      rfl
    refine done_ (done_of HT_.out (by kernel_rfl)) ?_
    try go_wp2
    refine bodyPost_ret (results_ct rfl _ _ gb346 25 #[.bool a0_1, .slice Ao22 t347.length co22, .int .i64 a0_3] (0, 0) _ rfl (by (with_reducible repeat (first | refine blk_drewN ?_ _ | refine blk_drew ?_ | refine blk_alloc ?_ _)); refine blk_put (cs := #[.bool a0_1, .slice Ao22 t347.length co22, .int .i64 0]) ?_ 2 _ rfl; (with_reducible repeat (first | refine blk_drewN ?_ _ | refine blk_drew ?_ | refine blk_alloc ?_ _)); refine blk_put (cs := #[.bool a0_1, .slice none 0 0, .int .i64 0]) ?_ 1 _ rfl; (with_reducible repeat (first | refine blk_drewN ?_ _ | refine blk_drew ?_ | refine blk_alloc ?_ _)); refine blk_put (cs := #[.bool false, .slice none 0 0, .int .i64 0]) ?_ 0 _ rfl; (with_reducible repeat (first | refine blk_drewN ?_ _ | refine blk_drew ?_ | refine blk_alloc ?_ _)); exact BK346.out) Tryz.underlying25 rfl (by kernel_rfl)) rfl ?_
    exact ⟨_, by first | rfl | (simp [errW_none, errW_some] <;> rfl) | (simp [*, errW_none, errW_some] <;> rfl), by (with_reducible repeat (first | apply Kd.V_alloc | apply Kd.V_drewN | apply Kd.V_drew)); exact Kd.V_mono (Kd.V_far (p := ⟨gb346, 2, none⟩) (Kd.V_far (p := ⟨gb346, 1, none⟩) (Kd.V_far (p := ⟨gb346, 0, none⟩) (Kd.V_mono HO349.out (fun k_ hk => (⟨hk, hk.2.2⟩ : _ ∧ k_ ≠ gb346))) (fun _ hk => hk.2) (.bool a0_1)) (fun _ hk => hk.2) (.slice Ao22 t347.length co22)) (fun _ hk => hk.2) (.int .i64 a0_3)) (fun _ hk => hk.1.1), by repeat (first | (with_reducible first | exact HB.out | apply below_alloc | apply pw_below_drewN | apply below_drew1 | refine below_set ?_ GE345.out | refine below_set ?_ GE346.out) | exact HB.out)⟩
def spec_Cmp.l0 : Nat → List Int → List Int → Int → Option (Int)
  | 0, _, _, _ => none
  | k + 1, x0, x1, x5 => if x5 ≥ 0 then (if 0 ≤ x5 then (if x5 < (x0.length : Int) then (if x5 < (x1.length : Int) then (if (rd x0 x5) < (rd x1 x5) then (some (-1)) else (if (rd x0 x5) > (rd x1 x5) then (some 1) else (spec_Cmp.l0 k x0 x1 (wrap64 (x5 - 1))))) else (none)) else (none)) else (none)) else (some 0)
def spec_Cmp.f (k : Nat) (l0 : List Int) (l1 : List Int) : Option (Int) := if (l0.length : Int) < (l1.length : Int) then (some (-1)) else (if (l0.length : Int) > (l1.length : Int) then (some 1) else (spec_Cmp.l0 k l0 l1 (wrap64 ((l0.length : Int) - 1))))
set_option maxHeartbeats 8000000 in
set_option maxRecDepth 100000 in
theorem spec_Cmp.calls (k : Nat) (A0 : Option Addr) (c0 : Nat) (l0 : List Int) (A1 : Option Addr) (c1 : Nat) (l1 : List Int) (r : Int) (w : World) (hr0 : Kd.C (Kd.int .i64) w A0 l0.length l0) (hc0 : l0.length ≤ c0) (hr1 : Kd.C (Kd.int .i64) w A1 l1.length l1) (hc1 : l1.length ≤ c1) (h : spec_Cmp.f k l0 l1 = some r) :
    Calls Tryz.prog 28 #[.slice A0 l0.length c0, .slice A1 l1.length c1] w fun e w' => e = .returned (.int .i64 r) ∧ Drawn0 w w' := by
  have HR0 := Aside0.mk hr0
  have HC0 := Aside0.mk hc0
  clear hr0 hc0
  have HR1 := Aside0.mk hr1
  have HC1 := Aside0.mk hc1
  clear hr1 hc1
  have H : (if (l0.length : Int) < (l1.length : Int) then (some (-1)) else (if (l0.length : Int) > (l1.length : Int) then (some 1) else (spec_Cmp.l0 k l0 l1 (wrap64 ((l0.length : Int) - 1))))) = some r := h
  clear h
  by_cases c3 : (l0.length : Int) < (l1.length : Int)
  · rw [if_pos c3] at H
    have c3b0 : decide ((l0.length : Int) < (l1.length : Int)) = true := decide_eq_true c3
    have c3b1 : decide (l0.length < l1.length) = true := decide_eq_true (Int.ofNat_lt.mp c3)
    clear c3
    obtain rfl := Option.some.inj H
    go_enter Tryz.func28, Tryz.ntmps28
    go_wp2
    repeat (go_quiet (fail); try go_wp2)
    go_ret
    exact ⟨by first | rfl | (simp; done) | (simp [*]; done), by repeat (first | exact Drawn0.refl _ | apply Drawn0.step)⟩
  · rw [if_neg c3] at H
    have c3b0 : decide ((l0.length : Int) < (l1.length : Int)) = false := decide_eq_false c3
    have c3b1 : decide (l0.length < l1.length) = false := decide_eq_false (fun h => c3 (Int.ofNat_lt.mpr h))
    clear c3
    by_cases c4 : (l0.length : Int) > (l1.length : Int)
    · rw [if_pos c4] at H
      have c4b0 : decide ((l1.length : Int) < (l0.length : Int)) = true := decide_eq_true c4
      have c4b1 : decide (l1.length < l0.length) = true := decide_eq_true (Int.ofNat_lt.mp c4)
      clear c4
      obtain rfl := Option.some.inj H
      go_enter Tryz.func28, Tryz.ntmps28
      go_wp2
      repeat (go_quiet (fail); try go_wp2)
      go_ret
      exact ⟨by first | rfl | (simp; done) | (simp [*]; done), by repeat (first | exact Drawn0.refl _ | apply Drawn0.step)⟩
    · rw [if_neg c4] at H
      have c4b0 : decide ((l1.length : Int) < (l0.length : Int)) = false := decide_eq_false c4
      have c4b1 : decide (l1.length < l0.length) = false := decide_eq_false (fun h => c4 (Int.ofNat_lt.mpr h))
      clear c4
      have H' := Aside0.mk H
      clear H
      go_enter Tryz.func28, Tryz.ntmps28
      go_wp2
      repeat (go_quiet (fail); try go_wp2)
      go_loopg [5] k (fun kq v5 w' => ∃ (x5_1 : Int), v5 = .int .i64 x5_1 ∧ Aside0 (spec_Cmp.l0 kq l0 l1 x5_1 = some r) ∧ Aside0 (kq ≤ k) ∧ Drawn0 w w')
      case atStart => exact ⟨(wrap64 ((l0.length : Int) - 1)), (by first | rfl | (simp; done) | (simp [*]; done)), H', ⟨Nat.le_refl _⟩, by repeat (first | exact Drawn0.refl _ | apply Drawn0.step)⟩
      case round =>
        clear H'
        try clear c1
        try clear c2
        try clear p2
        try clear c3
        try clear c3b0
        try clear c3b1
        try clear c4
        try clear c4b0
        try clear c4b1
        obtain ⟨x5_1, rfl, HA, HK1, ⟨m1, rfl⟩⟩ := hrel
        cases gk with
        | zero => exact absurd HA.out (by simp [spec_Cmp.l0])
        | succ k1 =>
          have H := HA.out
          clear HA
          simp only [spec_Cmp.l0] at H
          by_cases c5 : x5_1 ≥ 0
          · rw [if_pos c5] at H
            have c5b0 : decide (0 ≤ x5_1) = true := decide_eq_true c5
            clear c5
            by_cases c6 : 0 ≤ x5_1
            · rw [if_pos c6] at H
              have c6b0 : decide (0 ≤ x5_1) = true := decide_eq_true c6
              clear c6
              by_cases c7 : x5_1 < (l0.length : Int)
              · rw [if_pos c7] at H
                have c7b0 : decide (x5_1 < (l0.length : Int)) = true := decide_eq_true c7
                clear c7
                by_cases c8 : x5_1 < (l1.length : Int)
                · rw [if_pos c8] at H
                  have c8b0 : decide (x5_1 < (l1.length : Int)) = true := decide_eq_true c8
                  clear c8
                  by_cases c9 : (rd l0 x5_1) < (rd l1 x5_1)
                  · rw [if_pos c9] at H
                    have c9b0 : decide ((rd l0 x5_1) < (rd l1 x5_1)) = true := decide_eq_true c9
                    clear c9
                    obtain rfl := Option.some.inj H
                    have p351 : 0 ≤ (x5_1 : Int) := of_decide_eq_true (by first | (with_reducible assumption) | assumption)
                    have q351 : x5_1 < (l0.length : Int) := of_decide_eq_true (by first | (with_reducible assumption) | assumption)
                    obtain ⟨ad351, e351, hx351_0⟩ := Kd.at_int HR0.out x5_1 p351 q351
                    cases e351
                    replace p351 := eq_true p351
                    replace q351 := eq_true q351
                    have p352 : 0 ≤ (x5_1 : Int) := of_decide_eq_true (by first | (with_reducible assumption) | assumption)
                    have q352 : x5_1 < (l1.length : Int) := of_decide_eq_true (by first | (with_reducible assumption) | assumption)
                    obtain ⟨ad352, e352, hx352_0⟩ := Kd.at_int HR1.out x5_1 p352 q352
                    cases e352
                    replace p352 := eq_true p352
                    replace q352 := eq_true q352
                    go_wp2
                    repeat (go_quiet (fail); try go_wp2)
                    go_ret
                    exact ⟨by first | rfl | (simp; done) | (simp [*]; done), by repeat (first | exact Drawn0.refl _ | apply Drawn0.step)⟩
                  · rw [if_neg c9] at H
                    have c9b0 : decide ((rd l0 x5_1) < (rd l1 x5_1)) = false := decide_eq_false c9
                    clear c9
                    by_cases c10 : (rd l0 x5_1) > (rd l1 x5_1)
                    · rw [if_pos c10] at H
                      have c10b0 : decide ((rd l1 x5_1) < (rd l0 x5_1)) = true := decide_eq_true c10
                      clear c10
                      obtain rfl := Option.some.inj H
                      have p351 : 0 ≤ (x5_1 : Int) := of_decide_eq_true (by first | (with_reducible assumption) | assumption)
                      have q351 : x5_1 < (l0.length : Int) := of_decide_eq_true (by first | (with_reducible assumption) | assumption)
                      obtain ⟨ad351, e351, hx351_0⟩ := Kd.at_int HR0.out x5_1 p351 q351
                      cases e351
                      replace p351 := eq_true p351
                      replace q351 := eq_true q351
                      have p352 : 0 ≤ (x5_1 : Int) := of_decide_eq_true (by first | (with_reducible assumption) | assumption)
                      have q352 : x5_1 < (l1.length : Int) := of_decide_eq_true (by first | (with_reducible assumption) | assumption)
                      obtain ⟨ad352, e352, hx352_0⟩ := Kd.at_int HR1.out x5_1 p352 q352
                      cases e352
                      replace p352 := eq_true p352
                      replace q352 := eq_true q352
                      have p353 : 0 ≤ (x5_1 : Int) := of_decide_eq_true (by first | (with_reducible assumption) | assumption)
                      have q353 : x5_1 < (l0.length : Int) := of_decide_eq_true (by first | (with_reducible assumption) | assumption)
                      obtain ⟨ad353, e353, hx353_0⟩ := Kd.at_int HR0.out x5_1 p353 q353
                      obtain rfl : ad351 = ad353 := (by injection e353)
                      replace p353 := eq_true p353
                      replace q353 := eq_true q353
                      have p354 : 0 ≤ (x5_1 : Int) := of_decide_eq_true (by first | (with_reducible assumption) | assumption)
                      have q354 : x5_1 < (l1.length : Int) := of_decide_eq_true (by first | (with_reducible assumption) | assumption)
                      obtain ⟨ad354, e354, hx354_0⟩ := Kd.at_int HR1.out x5_1 p354 q354
                      obtain rfl : ad352 = ad354 := (by injection e354)
                      replace p354 := eq_true p354
                      replace q354 := eq_true q354
                      go_wp2
                      repeat (go_quiet (fail); try go_wp2)
                      go_ret
                      exact ⟨by first | rfl | (simp; done) | (simp [*]; done), by repeat (first | exact Drawn0.refl _ | apply Drawn0.step)⟩
                    · rw [if_neg c10] at H
                      have c10b0 : decide ((rd l1 x5_1) < (rd l0 x5_1)) = false := decide_eq_false c10
                      clear c10
                      have H' := Aside0.mk H
                      clear H
                      have p351 : 0 ≤ (x5_1 : Int) := of_decide_eq_true (by first | (with_reducible assumption) | assumption)
                      have q351 : x5_1 < (l0.length : Int) := of_decide_eq_true (by first | (with_reducible assumption) | assumption)
                      obtain ⟨ad351, e351, hx351_0⟩ := Kd.at_int HR0.out x5_1 p351 q351
                      cases e351
                      replace p351 := eq_true p351
                      replace q351 := eq_true q351
                      have p352 : 0 ≤ (x5_1 : Int) := of_decide_eq_true (by first | (with_reducible assumption) | assumption)
                      have q352 : x5_1 < (l1.length : Int) := of_decide_eq_true (by first | (with_reducible assumption) | assumption)
                      obtain ⟨ad352, e352, hx352_0⟩ := Kd.at_int HR1.out x5_1 p352 q352
                      cases e352
                      replace p352 := eq_true p352
                      replace q352 := eq_true q352
                      have p353 : 0 ≤ (x5_1 : Int) := of_decide_eq_true (by first | (with_reducible assumption) | assumption)
                      have q353 : x5_1 < (l0.length : Int) := of_decide_eq_true (by first | (with_reducible assumption) | assumption)
                      obtain ⟨ad353, e353, hx353_0⟩ := Kd.at_int HR0.out x5_1 p353 q353
                      obtain rfl : ad351 = ad353 := (by injection e353)
                      replace p353 := eq_true p353
                      replace q353 := eq_true q353
                      have p354 : 0 ≤ (x5_1 : Int) := of_decide_eq_true (by first | (with_reducible assumption) | assumption)
                      have q354 : x5_1 < (l1.length : Int) := of_decide_eq_true (by first | (with_reducible assumption) | assumption)
                      obtain ⟨ad354, e354, hx354_0⟩ := Kd.at_int HR1.out x5_1 p354 q354
                      obtain rfl : ad352 = ad354 := (by injection e354)
                      replace p354 := eq_true p354
                      replace q354 := eq_true q354
                      go_wp2
                      repeat (go_quiet (fail); try go_wp2)
                      go_roundg k1
                      case measure => have := HK1.out; omega
                      case rel => exact ⟨(wrap64 (x5_1 - 1)), (by first | rfl | (simp; done) | (simp [*]; done)), H', ⟨by have := HK1.out; omega⟩, by repeat (first | exact Drawn0.refl _ | apply Drawn0.step)⟩
                · rw [if_neg c8] at H
                  exact absurd H (by simp)
              · rw [if_neg c7] at H
                exact absurd H (by simp)
            · rw [if_neg c6] at H
              exact absurd H (by simp)
          · rw [if_neg c5] at H
            have c5b0 : decide (0 ≤ x5_1) = false := decide_eq_false c5
            clear c5
            obtain rfl := Option.some.inj H
            go_wp2
            repeat (go_quiet (fail); try go_wp2)
            go_ret
            exact ⟨by first | rfl | (simp; done) | (simp [*]; done), by repeat (first | exact Drawn0.refl _ | apply Drawn0.step)⟩
def spec_IsDec.f (k : Nat) (a0_0 : Int) (a0_1 : Bool) (l0_2 : List Int) (a0_3 : Int) (a1_0 : Bool) (l1_1 : List Int) (a1_2 : Int) : Option (Bool) := (spec_OfDec.f k a0_0 a0_1 l0_2 a0_3).bind fun bt357 => (if bt357.2.2.2 = true then ((spec_Cmp.f k bt357.2.1 l1_1).bind fun t364 => (if t364 = 0 then (if bt357.2.2.1 = a1_2 then (if (bt357.1 == a1_0) = true then (some true) else (some ((l1_1.length : Int) == 0))) else (some false)) else (some false))) else (some false))
set_option maxHeartbeats 8000000 in
set_option maxRecDepth 100000 in
theorem spec_IsDec.calls (k : Nat) (a0_0 : Int) (a0_1 : Bool) (A0_2 : Option Addr) (c0_2 : Nat) (l0_2 : List Int) (a0_3 : Int) (a1_0 : Bool) (A1_1 : Option Addr) (c1_1 : Nat) (l1_1 : List Int) (a1_2 : Int) (r : Bool) (w : World) (hr0_2 : Kd.C (Kd.int .u64) w A0_2 l0_2.length l0_2) (hc0_2 : l0_2.length ≤ c0_2) (hr1_1 : Kd.C (Kd.int .i64) w A1_1 l1_1.length l1_1) (hc1_1 : l1_1.length ≤ c1_1) (h : spec_IsDec.f k a0_0 a0_1 l0_2 a0_3 a1_0 l1_1 a1_2 = some r) :
    Calls Tryz.prog 11 #[.agg #[.int .i64 a0_0, .bool a0_1, .slice A0_2 l0_2.length c0_2, .int .i64 a0_3], .agg #[.bool a1_0, .slice A1_1 l1_1.length c1_1, .int .i64 a1_2]] w fun e w' => e = .returned (.bool r) ∧ Below w.heap.size w w' := by
  have hu30 := Tryz.underlying30
  have hu25 := Tryz.underlying25
  have HR0_2 := Aside0.mk hr0_2
  have HC0_2 := Aside0.mk hc0_2
  clear hr0_2 hc0_2
  have HR1_1 := Aside0.mk hr1_1
  have HC1_1 := Aside0.mk hc1_1
  clear hr1_1 hc1_1
  have HB := Aside0.mk (Below.refl w.heap.size w)
  have H : ((spec_OfDec.f k a0_0 a0_1 l0_2 a0_3).bind fun bt357 => (if bt357.2.2.2 = true then ((spec_Cmp.f k bt357.2.1 l1_1).bind fun t364 => (if t364 = 0 then (if bt357.2.2.1 = a1_2 then (if (bt357.1 == a1_0) = true then (some true) else (some ((l1_1.length : Int) == 0))) else (some false)) else (some false))) else (some false))) = some r := h
  clear h
  replace H := Option.bind_eq_some_iff.mp H
  obtain ⟨⟨t357, t358, t361, t362⟩, A30, H⟩ := H
  replace H : (if t362 = true then ((spec_Cmp.f k t358 l1_1).bind fun t364 => (if t364 = 0 then (if t361 = a1_2 then (if (t357 == a1_0) = true then (some true) else (some ((l1_1.length : Int) == 0))) else (some false)) else (some false))) else (some false)) = some r := H
  have A3 := Aside0.mk A30
  clear A30
  by_cases c4 : t362 = true
  · subst c4
    have H1 : ((spec_Cmp.f k t358 l1_1).bind fun t364 => (if t364 = 0 then (if t361 = a1_2 then (if (t357 == a1_0) = true then (some true) else (some ((l1_1.length : Int) == 0))) else (some false)) else (some false))) = some r := by rw [if_pos rfl] at H; exact H
    clear H
    have H := H1
    clear H1
    replace H := Option.bind_eq_some_iff.mp H
    obtain ⟨t364, A50, H⟩ := H
    replace H : (if t364 = 0 then (if t361 = a1_2 then (if (t357 == a1_0) = true then (some true) else (some ((l1_1.length : Int) == 0))) else (some false)) else (some false)) = some r := H
    have A5 := Aside0.mk A50
    clear A50
    by_cases c6 : t364 = 0
    · rw [if_pos c6] at H
      have c6b0 : (t364 == 0) = true := beq_iff_eq.mpr c6
      have c6b1 : (t364 != 0) = false := bne_eq_false_iff_eq.mpr c6
      clear c6
      by_cases c7 : t361 = a1_2
      · rw [if_pos c7] at H
        have c7b0 : (t361 == a1_2) = true := beq_iff_eq.mpr c7
        have c7b1 : (t361 != a1_2) = false := bne_eq_false_iff_eq.mpr c7
        clear c7
        by_cases c8 : (t357 == a1_0) = true
        · rw [if_pos c8] at H
          have c8b0 : (t357 == a1_0) = true := c8
          (try (have c8b1 : decide (t357 = a1_0) = true := by simpa using c8))
          (try (have c8b2 : (t357 == a1_0) = true := by simpa using c8))
          clear c8
          obtain rfl := Option.some.inj H
          go_enter Tryz.func11, Tryz.ntmps11
          go_wp2_with (first | ((with_reducible refine gate_dst (N := 2) rfl ?_); (try (refine gate_guard (by rfl) ?_; dsimp only)); refine box_event ?hg (N := 2) ?hd (cs := #[.int .i64 a0_0, .bool a0_1, .slice A0_2 l0_2.length c0_2, .int .i64 a0_3]) (t := 30) ?hr ?_; (case hd => rfl); (case hg => rfl); (case hr => first | (go_simp; done) | (go_simp; rfl)); intro gb355 hg w9 hbox hb; have n0_ := Aside0.mk (below_step (by repeat (first | (with_reducible first | exact HB.out | apply below_alloc | apply pw_below_drewN | apply below_drew1) | exact HB.out)) hb); have n1_ := Aside0.mk (hbox); have n2_ := Aside0.mk ((by rw [hg]; exact (below_size (by repeat (first | (with_reducible first | exact HB.out | apply below_alloc | apply pw_below_drewN | apply below_drew1) | exact HB.out))) : w.heap.size ≤ gb355)); have n3_ := Aside0.mk ((by rw [hg]; exact (below_size (by repeat (first | (with_reducible first | exact HB.out | apply below_alloc | apply pw_below_drewN | apply below_drew1) | exact HB.out))) : w.heap.size ≤ gb355)); clear HB; have HB := n0_; have BK355 := n1_; have GW355 := n2_; have GE355 := n3_; clear n0_ n1_ n2_ n3_; clear hb hbox hg) | ((with_reducible refine gate_dst (N := 3) rfl ?_); (try (refine gate_guard (by rfl) ?_; dsimp only)); refine box_event ?hg (N := 3) ?hd (cs := #[.bool a1_0, .slice A1_1 l1_1.length c1_1, .int .i64 a1_2]) (t := 25) ?hr ?_; (case hd => rfl); (case hg => rfl); (case hr => first | (go_simp; done) | (go_simp; rfl)); intro gb356 hg w10 hbox hb; have n0_ := Aside0.mk (blk_below (g := gb355) (o := .cells #[.int .i64 a0_0, .bool a0_1, .slice A0_2 l0_2.length c0_2, .int .i64 a0_3] 30 (0, 0)) (by (with_reducible repeat (first | refine blk_drewN ?_ _ | refine blk_drew ?_ | refine blk_alloc ?_ _)); exact BK355.out) hb); have n1_ := Aside0.mk (below_step (by repeat (first | (with_reducible first | exact HB.out | apply below_alloc | apply pw_below_drewN | apply below_drew1 | refine below_set ?_ GE355.out) | exact HB.out)) hb); have n2_ := Aside0.mk (hbox); have n3_ := Aside0.mk ((by rw [hg]; exact (below_size (by repeat (first | (with_reducible first | exact HB.out | apply below_alloc | apply pw_below_drewN | apply below_drew1 | refine below_set ?_ GE355.out) | exact HB.out))) : w.heap.size ≤ gb356)); have n4_ := Aside0.mk ((by rw [hg]; exact (below_size (by repeat (first | (with_reducible first | exact HB.out | apply below_alloc | apply pw_below_drewN | apply below_drew1 | refine below_set ?_ GE355.out) | exact HB.out))) : w.heap.size ≤ gb356)); have n5_ := Aside0.mk ((by rw [hg]; exact Nat.ne_of_lt (blk_lt (g := gb355) (o := .cells #[.int .i64 a0_0, .bool a0_1, .slice A0_2 l0_2.length c0_2, .int .i64 a0_3] 30 (0, 0)) (by (with_reducible repeat (first | refine blk_drewN ?_ _ | refine blk_drew ?_ | refine blk_alloc ?_ _)); exact BK355.out)) : gb355 ≠ gb356)); have n6_ := Aside0.mk ((by rw [hg]; exact Nat.ne_of_gt (blk_lt (g := gb355) (o := .cells #[.int .i64 a0_0, .bool a0_1, .slice A0_2 l0_2.length c0_2, .int .i64 a0_3] 30 (0, 0)) (by (with_reducible repeat (first | refine blk_drewN ?_ _ | refine blk_drew ?_ | refine blk_alloc ?_ _)); exact BK355.out)) : gb356 ≠ gb355)); clear BK355; clear HB; have BK355 := n0_; have HB := n1_; have BK356 := n2_; have GW356 := n3_; have GE356 := n4_; have NB355_356 := n5_; have NB356_355 := n6_; clear n0_ n1_ n2_ n3_ n4_ n5_ n6_; clear hb hbox hg; have hnb11 := NB355_356.out; have hnc11 := NB356_355.out; have hcz12_0 : w10.cell? ⟨gb355, 0, none⟩ = some (.int .i64 a0_0) := (blk_cell BK355.out 0).trans rfl; have hcz12_1 : w10.cell? ⟨gb355, 1, none⟩ = some (.bool a0_1) := (blk_cell BK355.out 1).trans rfl; have hcz12_2 : w10.cell? ⟨gb355, 2, none⟩ = some (.slice A0_2 l0_2.length c0_2) := (blk_cell BK355.out 2).trans rfl; have hcz12_3 : w10.cell? ⟨gb355, 3, none⟩ = some (.int .i64 a0_3) := (blk_cell BK355.out 3).trans rfl; have hfz12_0 := blk_frozen BK355.out 0; have hfz12_1 := blk_frozen BK355.out 1; have hfz12_2 := blk_frozen BK355.out 2; have hfz12_3 := blk_frozen BK355.out 3) | ((with_reducible refine gate_callee (f := 10) rfl ?_); refine goesL_ (some 9) rfl rfl Tryz.func10 (by kernel_rfl) rfl #[.agg #[.int .i64 a0_0, .bool a0_1, .slice A0_2 l0_2.length c0_2, .int .i64 a0_3]] rfl (by (try simp only [List.map_toArray, List.map_cons, List.map_nil]); first | done | rfl | (simp only [List.length_drop, List.length_take]; rfl)) ?_; (with_reducible refine (spec_OfDec.calls k a0_0 a0_1 _ _ l0_2 a0_3 t357 t358 t361 true _ ?side1 ?side2 A3.out).mono ?_); (case side1 => repeat (first | exact (Kd.C_below HR0_2.out HB.out) | (with_reducible refine Kd.C_alloc ?_ _) | (with_reducible refine Kd.C_drewN ?_ _) | (with_reducible refine Kd.C_drew ?_))); (case side2 => exact HC0_2.out); rintro e w13 ⟨v359, rfl, ho0, hb⟩; refine ⟨_, rfl, ?_⟩; have n0_ := Aside0.mk (Kd.V_lower (Kd.V_mono (ok' := fun k_ => k_ ≠ gb355 ∧ k_ ≠ gb356) ho0 (fun k_ hk_ => ⟨(Kd.freshB (g := gb355) (o := .cells #[.int .i64 a0_0, .bool a0_1, .slice A0_2 l0_2.length c0_2, .int .i64 a0_3] 30 (0, 0)) (by (with_reducible repeat (first | refine blk_drewN ?_ _ | refine blk_drew ?_ | refine blk_alloc ?_ _)); exact BK355.out) k_ hk_), (Kd.freshB (g := gb356) (o := .cells #[.bool a1_0, .slice A1_1 l1_1.length c1_1, .int .i64 a1_2] 25 (0, 0)) (by (with_reducible repeat (first | refine blk_drewN ?_ _ | refine blk_drew ?_ | refine blk_alloc ?_ _)); exact BK356.out) k_ hk_)⟩)) (below_size (by repeat (first | (with_reducible first | exact HB.out | apply below_alloc | apply pw_below_drewN | apply below_drew1 | refine below_set ?_ GE355.out | refine below_set ?_ GE356.out) | exact HB.out)))); have n1_ := Aside0.mk (blk_below (g := gb355) (o := .cells #[.int .i64 a0_0, .bool a0_1, .slice A0_2 l0_2.length c0_2, .int .i64 a0_3] 30 (0, 0)) (by (with_reducible repeat (first | refine blk_drewN ?_ _ | refine blk_drew ?_ | refine blk_alloc ?_ _)); exact BK355.out) hb); have n2_ := Aside0.mk (blk_below (g := gb356) (o := .cells #[.bool a1_0, .slice A1_1 l1_1.length c1_1, .int .i64 a1_2] 25 (0, 0)) (by (with_reducible repeat (first | refine blk_drewN ?_ _ | refine blk_drew ?_ | refine blk_alloc ?_ _)); exact BK356.out) hb); have n3_ := Aside0.mk (below_step (by repeat (first | (with_reducible first | exact HB.out | apply below_alloc | apply pw_below_drewN | apply below_drew1 | refine below_set ?_ GE355.out | refine below_set ?_ GE356.out) | exact HB.out)) hb); clear BK355; clear BK356; clear HB; have HO360 := n0_; have BK355 := n1_; have BK356 := n2_; have HB := n3_; clear n0_ n1_ n2_ n3_; (try clear hb); (try clear hb2); (try clear hk); (try clear hi); (try clear ho0)) | ((with_reducible refine gate_dst (N := 5) rfl ?_); (try (refine gate_guard (by rfl) ?_; dsimp only)); refine box_event ?hg (N := 5) ?hd (cs := #[.bool false, .slice none 0 0, .int .i64 0]) (t := 25) ?hr ?_; (case hd => rfl); (case hg => rfl); (case hr => first | (go_simp; done) | (go_simp; rfl)); intro gb363 hg w14 hbox hb; have n0_ := Aside0.mk (Kd.V_below (Kd.V_elderB (by (with_reducible repeat (first | apply Kd.V_alloc | apply Kd.V_drewN | apply Kd.V_drew)); exact HO360.out) gb363 (Nat.le_of_eq hg.symm)) hb); have n1_ := Aside0.mk (blk_below (g := gb355) (o := .cells #[.int .i64 a0_0, .bool a0_1, .slice A0_2 l0_2.length c0_2, .int .i64 a0_3] 30 (0, 0)) (by (with_reducible repeat (first | refine blk_drewN ?_ _ | refine blk_drew ?_ | refine blk_alloc ?_ _)); exact BK355.out) hb); have n2_ := Aside0.mk (blk_below (g := gb356) (o := .cells #[.bool a1_0, .slice A1_1 l1_1.length c1_1, .int .i64 a1_2] 25 (0, 0)) (by (with_reducible repeat (first | refine blk_drewN ?_ _ | refine blk_drew ?_ | refine blk_alloc ?_ _)); exact BK356.out) hb); have n3_ := Aside0.mk (below_step (by repeat (first | (with_reducible first | exact HB.out | apply below_alloc | apply pw_below_drewN | apply below_drew1 | refine below_set ?_ GE355.out | refine below_set ?_ GE356.out) | exact HB.out)) hb); have n4_ := Aside0.mk (hbox); have n5_ := Aside0.mk ((by rw [hg]; exact (below_size (by repeat (first | (with_reducible first | exact HB.out | apply below_alloc | apply pw_below_drewN | apply below_drew1 | refine below_set ?_ GE355.out | refine below_set ?_ GE356.out) | exact HB.out))) : w.heap.size ≤ gb363)); have n6_ := Aside0.mk ((by rw [hg]; exact (below_size (by repeat (first | (with_reducible first | exact HB.out | apply below_alloc | apply pw_below_drewN | apply below_drew1 | refine below_set ?_ GE355.out | refine below_set ?_ GE356.out) | exact HB.out))) : w.heap.size ≤ gb363)); have n7_ := Aside0.mk ((by rw [hg]; exact Nat.ne_of_lt (blk_lt (g := gb355) (o := .cells #[.int .i64 a0_0, .bool a0_1, .slice A0_2 l0_2.length c0_2, .int .i64 a0_3] 30 (0, 0)) (by (with_reducible repeat (first | refine blk_drewN ?_ _ | refine blk_drew ?_ | refine blk_alloc ?_ _)); exact BK355.out)) : gb355 ≠ gb363)); have n8_ := Aside0.mk ((by rw [hg]; exact Nat.ne_of_gt (blk_lt (g := gb355) (o := .cells #[.int .i64 a0_0, .bool a0_1, .slice A0_2 l0_2.length c0_2, .int .i64 a0_3] 30 (0, 0)) (by (with_reducible repeat (first | refine blk_drewN ?_ _ | refine blk_drew ?_ | refine blk_alloc ?_ _)); exact BK355.out)) : gb363 ≠ gb355)); have n9_ := Aside0.mk ((by rw [hg]; exact Nat.ne_of_lt (blk_lt (g := gb356) (o := .cells #[.bool a1_0, .slice A1_1 l1_1.length c1_1, .int .i64 a1_2] 25 (0, 0)) (by (with_reducible repeat (first | refine blk_drewN ?_ _ | refine blk_drew ?_ | refine blk_alloc ?_ _)); exact BK356.out)) : gb356 ≠ gb363)); have n10_ := Aside0.mk ((by rw [hg]; exact Nat.ne_of_gt (blk_lt (g := gb356) (o := .cells #[.bool a1_0, .slice A1_1 l1_1.length c1_1, .int .i64 a1_2] 25 (0, 0)) (by (with_reducible repeat (first | refine blk_drewN ?_ _ | refine blk_drew ?_ | refine blk_alloc ?_ _)); exact BK356.out)) : gb363 ≠ gb356)); clear HO360; clear BK355; clear BK356; clear HB; have HO360 := n0_; have BK355 := n1_; have BK356 := n2_; have HB := n3_; have BK363 := n4_; have GW363 := n5_; have GE363 := n6_; have NB355_363 := n7_; have NB363_355 := n8_; have NB356_363 := n9_; have NB363_356 := n10_; clear n0_ n1_ n2_ n3_ n4_ n5_ n6_ n7_ n8_ n9_ n10_; clear hb hbox hg; have hnb15 := NB363_355.out; have hnc15 := NB355_363.out; have hnb16 := NB363_356.out; have hnc16 := NB356_363.out; have hcz17_0 : w14.cell? ⟨gb363, 0, none⟩ = some (.bool false) := (blk_cell BK363.out 0).trans rfl; have hcz17_1 : w14.cell? ⟨gb363, 1, none⟩ = some (.slice none 0 0) := (blk_cell BK363.out 1).trans rfl; have hcz17_2 : w14.cell? ⟨gb363, 2, none⟩ = some (.int .i64 0) := (blk_cell BK363.out 2).trans rfl; have hfz17_0 := blk_frozen BK363.out 0; have hfz17_1 := blk_frozen BK363.out 1; have hfz17_2 := blk_frozen BK363.out 2; obtain ⟨Ao18, co18, eo18⟩ := Kd.V_slice HO360.out; subst eo18; have hcz19_0 : w14.cell? ⟨gb356, 0, none⟩ = some (.bool a1_0) := (blk_cell BK356.out 0).trans rfl; have hcz19_1 : w14.cell? ⟨gb356, 1, none⟩ = some (.slice A1_1 l1_1.length c1_1) := (blk_cell BK356.out 1).trans rfl; have hcz19_2 : w14.cell? ⟨gb356, 2, none⟩ = some (.int .i64 a1_2) := (blk_cell BK356.out 2).trans rfl; have hfz19_0 := blk_frozen BK356.out 0; have hfz19_1 := blk_frozen BK356.out 1; have hfz19_2 := blk_frozen BK356.out 2) | (go_at_call 28; (with_reducible refine (spec_Cmp.calls k _ _ t358 _ _ l1_1 t364 _ ?side1 ?side2 ?side3 ?side4 A5.out).mono ?_); (case side1 => refine (Kd.V_reads' (e := 3) (base := w.heap.size) (ok := fun k_ => ((k_ ≠ gb355 ∧ k_ ≠ gb356) ∧ k_ ≠ gb363)) (n := t358.length) (c := co18) ?_).2.2; exact (by (with_reducible repeat (first | apply Kd.V_alloc | apply Kd.V_drewN | apply Kd.V_drew)); exact (Kd.V_mono (Kd.V_far (p := ⟨gb363, 2, none⟩) (Kd.V_far (p := ⟨gb363, 1, none⟩) (Kd.V_far (p := ⟨gb363, 0, none⟩) (Kd.V_mono HO360.out (fun k_ hk => (⟨hk, hk.2⟩ : _ ∧ k_ ≠ gb363))) (fun _ hk => hk.2) (.bool t357)) (fun _ hk => hk.2) (.slice Ao18 t358.length co18)) (fun _ hk => hk.2) (.int .i64 t361)) (fun _ h_ => h_.1)))); (case side2 => exact (Kd.V_reads' HO360.out).2.1); (case side3 => exact Kd.C_below HR1_1.out (by repeat (first | (with_reducible first | exact HB.out | apply below_alloc | apply pw_below_drewN | apply below_drew1 | refine below_set ?_ GE355.out | refine below_set ?_ GE356.out | refine below_set ?_ GE363.out) | exact HB.out))); (case side4 => exact HC1_1.out); rintro e w' ⟨rfl, ⟨nd, rfl⟩⟩))
          go_ret
          exact ⟨by first | rfl | (simp [errW_none, errW_some] <;> rfl) | (simp [*, errW_none, errW_some] <;> rfl), by repeat (first | (with_reducible first | exact HB.out | apply below_alloc | apply pw_below_drewN | apply below_drew1 | refine below_set ?_ GE355.out | refine below_set ?_ GE356.out | refine below_set ?_ GE363.out) | exact HB.out)⟩
        · rw [if_neg c8] at H
          have c8b0 : (t357 == a1_0) = false := by simpa using c8
          (try (have c8b1 : decide (t357 = a1_0) = false := by simpa using c8))
          (try (have c8b2 : (t357 == a1_0) = false := by simpa using c8))
          (try (have c8b3 : ¬ (t357 = a1_0) := by simpa using c8))
          clear c8
          obtain rfl := Option.some.inj H
          go_enter Tryz.func11, Tryz.ntmps11
          go_wp2_with (first | ((with_reducible refine gate_dst (N := 2) rfl ?_); (try (refine gate_guard (by rfl) ?_; dsimp only)); refine box_event ?hg (N := 2) ?hd (cs := #[.int .i64 a0_0, .bool a0_1, .slice A0_2 l0_2.length c0_2, .int .i64 a0_3]) (t := 30) ?hr ?_; (case hd => rfl); (case hg => rfl); (case hr => first | (go_simp; done) | (go_simp; rfl)); intro gb355 hg w20 hbox hb; have n0_ := Aside0.mk (below_step (by repeat (first | (with_reducible first | exact HB.out | apply below_alloc | apply pw_below_drewN | apply below_drew1) | exact HB.out)) hb); have n1_ := Aside0.mk (hbox); have n2_ := Aside0.mk ((by rw [hg]; exact (below_size (by repeat (first | (with_reducible first | exact HB.out | apply below_alloc | apply pw_below_drewN | apply below_drew1) | exact HB.out))) : w.heap.size ≤ gb355)); have n3_ := Aside0.mk ((by rw [hg]; exact (below_size (by repeat (first | (with_reducible first | exact HB.out | apply below_alloc | apply pw_below_drewN | apply below_drew1) | exact HB.out))) : w.heap.size ≤ gb355)); clear HB; have HB := n0_; have BK355 := n1_; have GW355 := n2_; have GE355 := n3_; clear n0_ n1_ n2_ n3_; clear hb hbox hg) | ((with_reducible refine gate_dst (N := 3) rfl ?_); (try (refine gate_guard (by rfl) ?_; dsimp only)); refine box_event ?hg (N := 3) ?hd (cs := #[.bool a1_0, .slice A1_1 l1_1.length c1_1, .int .i64 a1_2]) (t := 25) ?hr ?_; (case hd => rfl); (case hg => rfl); (case hr => first | (go_simp; done) | (go_simp; rfl)); intro gb356 hg w21 hbox hb; have n0_ := Aside0.mk (blk_below (g := gb355) (o := .cells #[.int .i64 a0_0, .bool a0_1, .slice A0_2 l0_2.length c0_2, .int .i64 a0_3] 30 (0, 0)) (by (with_reducible repeat (first | refine blk_drewN ?_ _ | refine blk_drew ?_ | refine blk_alloc ?_ _)); exact BK355.out) hb); have n1_ := Aside0.mk (below_step (by repeat (first | (with_reducible first | exact HB.out | apply below_alloc | apply pw_below_drewN | apply below_drew1 | refine below_set ?_ GE355.out) | exact HB.out)) hb); have n2_ := Aside0.mk (hbox); have n3_ := Aside0.mk ((by rw [hg]; exact (below_size (by repeat (first | (with_reducible first | exact HB.out | apply below_alloc | apply pw_below_drewN | apply below_drew1 | refine below_set ?_ GE355.out) | exact HB.out))) : w.heap.size ≤ gb356)); have n4_ := Aside0.mk ((by rw [hg]; exact (below_size (by repeat (first | (with_reducible first | exact HB.out | apply below_alloc | apply pw_below_drewN | apply below_drew1 | refine below_set ?_ GE355.out) | exact HB.out))) : w.heap.size ≤ gb356)); have n5_ := Aside0.mk ((by rw [hg]; exact Nat.ne_of_lt (blk_lt (g := gb355) (o := .cells #[.int .i64 a0_0, .bool a0_1, .slice A0_2 l0_2.length c0_2, .int .i64 a0_3] 30 (0, 0)) (by (with_reducible repeat (first | refine blk_drewN ?_ _ | refine blk_drew ?_ | refine blk_alloc ?_ _)); exact BK355.out)) : gb355 ≠ gb356)); have n6_ := Aside0.mk ((by rw [hg]; exact Nat.ne_of_gt (blk_lt (g := gb355) (o := .cells #[.int .i64 a0_0, .bool a0_1, .slice A0_2 l0_2.length c0_2, .int .i64 a0_3] 30 (0, 0)) (by (with_reducible repeat (first | refine blk_drewN ?_ _ | refine blk_drew ?_ | refine blk_alloc ?_ _)); exact BK355.out)) : gb356 ≠ gb355)); clear BK355; clear HB; have BK355 := n0_; have HB := n1_; have BK356 := n2_; have GW356 := n3_; have GE356 := n4_; have NB355_356 := n5_; have NB356_355 := n6_; clear n0_ n1_ n2_ n3_ n4_ n5_ n6_; clear hb hbox hg; have hnb22 := NB355_356.out; have hnc22 := NB356_355.out; have hcz23_0 : w21.cell? ⟨gb355, 0, none⟩ = some (.int .i64 a0_0) := (blk_cell BK355.out 0).trans rfl; have hcz23_1 : w21.cell? ⟨gb355, 1, none⟩ = some (.bool a0_1) := (blk_cell BK355.out 1).trans rfl; have hcz23_2 : w21.cell? ⟨gb355, 2, none⟩ = some (.slice A0_2 l0_2.length c0_2) := (blk_cell BK355.out 2).trans rfl; have hcz23_3 : w21.cell? ⟨gb355, 3, none⟩ = some (.int .i64 a0_3) := (blk_cell BK355.out 3).trans rfl; have hfz23_0 := blk_frozen BK355.out 0; have hfz23_1 := blk_frozen BK355.out 1; have hfz23_2 := blk_frozen BK355.out 2; have hfz23_3 := blk_frozen BK355.out 3) | ((with_reducible refine gate_callee (f := 10) rfl ?_); refine goesL_ (some 9) rfl rfl Tryz.func10 (by kernel_rfl) rfl #[.agg #[.int .i64 a0_0, .bool a0_1, .slice A0_2 l0_2.length c0_2, .int .i64 a0_3]] rfl (by (try simp only [List.map_toArray, List.map_cons, List.map_nil]); first | done | rfl | (simp only [List.length_drop, List.length_take]; rfl)) ?_; (with_reducible refine (spec_OfDec.calls k a0_0 a0_1 _ _ l0_2 a0_3 t357 t358 t361 true _ ?side1 ?side2 A3.out).mono ?_); (case side1 => repeat (first | exact (Kd.C_below HR0_2.out HB.out) | (with_reducible refine Kd.C_alloc ?_ _) | (with_reducible refine Kd.C_drewN ?_ _) | (with_reducible refine Kd.C_drew ?_))); (case side2 => exact HC0_2.out); rintro e w24 ⟨v359, rfl, ho0, hb⟩; refine ⟨_, rfl, ?_⟩; have n0_ := Aside0.mk (Kd.V_lower (Kd.V_mono (ok' := fun k_ => k_ ≠ gb355 ∧ k_ ≠ gb356) ho0 (fun k_ hk_ => ⟨(Kd.freshB (g := gb355) (o := .cells #[.int .i64 a0_0, .bool a0_1, .slice A0_2 l0_2.length c0_2, .int .i64 a0_3] 30 (0, 0)) (by (with_reducible repeat (first | refine blk_drewN ?_ _ | refine blk_drew ?_ | refine blk_alloc ?_ _)); exact BK355.out) k_ hk_), (Kd.freshB (g := gb356) (o := .cells #[.bool a1_0, .slice A1_1 l1_1.length c1_1, .int .i64 a1_2] 25 (0, 0)) (by (with_reducible repeat (first | refine blk_drewN ?_ _ | refine blk_drew ?_ | refine blk_alloc ?_ _)); exact BK356.out) k_ hk_)⟩)) (below_size (by repeat (first | (with_reducible first | exact HB.out | apply below_alloc | apply pw_below_drewN | apply below_drew1 | refine below_set ?_ GE355.out | refine below_set ?_ GE356.out) | exact HB.out)))); have n1_ := Aside0.mk (blk_below (g := gb355) (o := .cells #[.int .i64 a0_0, .bool a0_1, .slice A0_2 l0_2.length c0_2, .int .i64 a0_3] 30 (0, 0)) (by (with_reducible repeat (first | refine blk_drewN ?_ _ | refine blk_drew ?_ | refine blk_alloc ?_ _)); exact BK355.out) hb); have n2_ := Aside0.mk (blk_below (g := gb356) (o := .cells #[.bool a1_0, .slice A1_1 l1_1.length c1_1, .int .i64 a1_2] 25 (0, 0)) (by (with_reducible repeat (first | refine blk_drewN ?_ _ | refine blk_drew ?_ | refine blk_alloc ?_ _)); exact BK356.out) hb); have n3_ := Aside0.mk (below_step (by repeat (first | (with_reducible first | exact HB.out | apply below_alloc | apply pw_below_drewN | apply below_drew1 | refine below_set ?_ GE355.out | refine below_set ?_ GE356.out) | exact HB.out)) hb); clear BK355; clear BK356; clear HB; have HO360 := n0_; have BK355 := n1_; have BK356 := n2_; have HB := n3_; clear n0_ n1_ n2_ n3_; (try clear hb); (try clear hb2); (try clear hk); (try clear hi); (try clear ho0)) | ((with_reducible refine gate_dst (N := 5) rfl ?_); (try (refine gate_guard (by rfl) ?_; dsimp only)); refine box_event ?hg (N := 5) ?hd (cs := #[.bool false, .slice none 0 0, .int .i64 0]) (t := 25) ?hr ?_; (case hd => rfl); (case hg => rfl); (case hr => first | (go_simp; done) | (go_simp; rfl)); intro gb363 hg w25 hbox hb; have n0_ := Aside0.mk (Kd.V_below (Kd.V_elderB (by (with_reducible repeat (first | apply Kd.V_alloc | apply Kd.V_drewN | apply Kd.V_drew)); exact HO360.out) gb363 (Nat.le_of_eq hg.symm)) hb); have n1_ := Aside0.mk (blk_below (g := gb355) (o := .cells #[.int .i64 a0_0, .bool a0_1, .slice A0_2 l0_2.length c0_2, .int .i64 a0_3] 30 (0, 0)) (by (with_reducible repeat (first | refine blk_drewN ?_ _ | refine blk_drew ?_ | refine blk_alloc ?_ _)); exact BK355.out) hb); have n2_ := Aside0.mk (blk_below (g := gb356) (o := .cells #[.bool a1_0, .slice A1_1 l1_1.length c1_1, .int .i64 a1_2] 25 (0, 0)) (by (with_reducible repeat (first | refine blk_drewN ?_ _ | refine blk_drew ?_ | refine blk_alloc ?_ _)); exact BK356.out) hb); have n3_ := Aside0.mk (below_step (by repeat (first | (with_reducible first | exact HB.out | apply below_alloc | apply pw_below_drewN | apply below_drew1 | refine below_set ?_ GE355.out | refine below_set ?_ GE356.out) | exact HB.out)) hb); have n4_ := Aside0.mk (hbox); have n5_ := Aside0.mk ((by rw [hg]; exact (below_size (by repeat (first | (with_reducible first | exact HB.out | apply below_alloc | apply pw_below_drewN | apply below_drew1 | refine below_set ?_ GE355.out | refine below_set ?_ GE356.out) | exact HB.out))) : w.heap.size ≤ gb363)); have n6_ := Aside0.mk ((by rw [hg]; exact (below_size (by repeat (first | (with_reducible first | exact HB.out | apply below_alloc | apply pw_below_drewN | apply below_drew1 | refine below_set ?_ GE355.out | refine below_set ?_ GE356.out) | exact HB.out))) : w.heap.size ≤ gb363)); have n7_ := Aside0.mk ((by rw [hg]; exact Nat.ne_of_lt (blk_lt (g := gb355) (o := .cells #[.int .i64 a0_0, .bool a0_1, .slice A0_2 l0_2.length c0_2, .int .i64 a0_3] 30 (0, 0)) (by (with_reducible repeat (first | refine blk_drewN ?_ _ | refine blk_drew ?_ | refine blk_alloc ?_ _)); exact BK355.out)) : gb355 ≠ gb363)); have n8_ := Aside0.mk ((by rw [hg]; exact Nat.ne_of_gt (blk_lt (g := gb355) (o := .cells #[.int .i64 a0_0, .bool a0_1, .slice A0_2 l0_2.length c0_2, .int .i64 a0_3] 30 (0, 0)) (by (with_reducible repeat (first | refine blk_drewN ?_ _ | refine blk_drew ?_ | refine blk_alloc ?_ _)); exact BK355.out)) : gb363 ≠ gb355)); have n9_ := Aside0.mk ((by rw [hg]; exact Nat.ne_of_lt (blk_lt (g := gb356) (o := .cells #[.bool a1_0, .slice A1_1 l1_1.length c1_1, .int .i64 a1_2] 25 (0, 0)) (by (with_reducible repeat (first | refine blk_drewN ?_ _ | refine blk_drew ?_ | refine blk_alloc ?_ _)); exact BK356.out)) : gb356 ≠ gb363)); have n10_ := Aside0.mk ((by rw [hg]; exact Nat.ne_of_gt (blk_lt (g := gb356) (o := .cells #[.bool a1_0, .slice A1_1 l1_1.length c1_1, .int .i64 a1_2] 25 (0, 0)) (by (with_reducible repeat (first | refine blk_drewN ?_ _ | refine blk_drew ?_ | refine blk_alloc ?_ _)); exact BK356.out)) : gb363 ≠ gb356)); clear HO360; clear BK355; clear BK356; clear HB; have HO360 := n0_; have BK355 := n1_; have BK356 := n2_; have HB := n3_; have BK363 := n4_; have GW363 := n5_; have GE363 := n6_; have NB355_363 := n7_; have NB363_355 := n8_; have NB356_363 := n9_; have NB363_356 := n10_; clear n0_ n1_ n2_ n3_ n4_ n5_ n6_ n7_ n8_ n9_ n10_; clear hb hbox hg; have hnb26 := NB363_355.out; have hnc26 := NB355_363.out; have hnb27 := NB363_356.out; have hnc27 := NB356_363.out; have hcz28_0 : w25.cell? ⟨gb363, 0, none⟩ = some (.bool false) := (blk_cell BK363.out 0).trans rfl; have hcz28_1 : w25.cell? ⟨gb363, 1, none⟩ = some (.slice none 0 0) := (blk_cell BK363.out 1).trans rfl; have hcz28_2 : w25.cell? ⟨gb363, 2, none⟩ = some (.int .i64 0) := (blk_cell BK363.out 2).trans rfl; have hfz28_0 := blk_frozen BK363.out 0; have hfz28_1 := blk_frozen BK363.out 1; have hfz28_2 := blk_frozen BK363.out 2; obtain ⟨Ao29, co29, eo29⟩ := Kd.V_slice HO360.out; subst eo29; have hcz30_0 : w25.cell? ⟨gb356, 0, none⟩ = some (.bool a1_0) := (blk_cell BK356.out 0).trans rfl; have hcz30_1 : w25.cell? ⟨gb356, 1, none⟩ = some (.slice A1_1 l1_1.length c1_1) := (blk_cell BK356.out 1).trans rfl; have hcz30_2 : w25.cell? ⟨gb356, 2, none⟩ = some (.int .i64 a1_2) := (blk_cell BK356.out 2).trans rfl; have hfz30_0 := blk_frozen BK356.out 0; have hfz30_1 := blk_frozen BK356.out 1; have hfz30_2 := blk_frozen BK356.out 2) | (go_at_call 28; (with_reducible refine (spec_Cmp.calls k _ _ t358 _ _ l1_1 t364 _ ?side1 ?side2 ?side3 ?side4 A5.out).mono ?_); (case side1 => refine (Kd.V_reads' (e := 3) (base := w.heap.size) (ok := fun k_ => ((k_ ≠ gb355 ∧ k_ ≠ gb356) ∧ k_ ≠ gb363)) (n := t358.length) (c := co29) ?_).2.2; exact (by (with_reducible repeat (first | apply Kd.V_alloc | apply Kd.V_drewN | apply Kd.V_drew)); exact (Kd.V_mono (Kd.V_far (p := ⟨gb363, 2, none⟩) (Kd.V_far (p := ⟨gb363, 1, none⟩) (Kd.V_far (p := ⟨gb363, 0, none⟩) (Kd.V_mono HO360.out (fun k_ hk => (⟨hk, hk.2⟩ : _ ∧ k_ ≠ gb363))) (fun _ hk => hk.2) (.bool t357)) (fun _ hk => hk.2) (.slice Ao29 t358.length co29)) (fun _ hk => hk.2) (.int .i64 t361)) (fun _ h_ => h_.1)))); (case side2 => exact (Kd.V_reads' HO360.out).2.1); (case side3 => exact Kd.C_below HR1_1.out (by repeat (first | (with_reducible first | exact HB.out | apply below_alloc | apply pw_below_drewN | apply below_drew1 | refine below_set ?_ GE355.out | refine below_set ?_ GE356.out | refine below_set ?_ GE363.out) | exact HB.out))); (case side4 => exact HC1_1.out); rintro e w' ⟨rfl, ⟨nd, rfl⟩⟩))
          go_ret
          exact ⟨by first | rfl | (simp [errW_none, errW_some] <;> rfl) | (simp [*, errW_none, errW_some] <;> rfl), by repeat (first | (with_reducible first | exact HB.out | apply below_alloc | apply pw_below_drewN | apply below_drew1 | refine below_set ?_ GE355.out | refine below_set ?_ GE356.out | refine below_set ?_ GE363.out) | exact HB.out)⟩
      · rw [if_neg c7] at H
        have c7b0 : (t361 == a1_2) = false := beq_eq_false_iff_ne.mpr c7
        have c7b1 : (t361 != a1_2) = true := bne_iff_ne.mpr c7
        obtain rfl := Option.some.inj H
        go_enter Tryz.func11, Tryz.ntmps11
        go_wp2_with (first | ((with_reducible refine gate_dst (N := 2) rfl ?_); (try (refine gate_guard (by rfl) ?_; dsimp only)); refine box_event ?hg (N := 2) ?hd (cs := #[.int .i64 a0_0, .bool a0_1, .slice A0_2 l0_2.length c0_2, .int .i64 a0_3]) (t := 30) ?hr ?_; (case hd => rfl); (case hg => rfl); (case hr => first | (go_simp; done) | (go_simp; rfl)); intro gb355 hg w31 hbox hb; have n0_ := Aside0.mk (below_step (by repeat (first | (with_reducible first | exact HB.out | apply below_alloc | apply pw_below_drewN | apply below_drew1) | exact HB.out)) hb); have n1_ := Aside0.mk (hbox); have n2_ := Aside0.mk ((by rw [hg]; exact (below_size (by repeat (first | (with_reducible first | exact HB.out | apply below_alloc | apply pw_below_drewN | apply below_drew1) | exact HB.out))) : w.heap.size ≤ gb355)); have n3_ := Aside0.mk ((by rw [hg]; exact (below_size (by repeat (first | (with_reducible first | exact HB.out | apply below_alloc | apply pw_below_drewN | apply below_drew1) | exact HB.out))) : w.heap.size ≤ gb355)); clear HB; have HB := n0_; have BK355 := n1_; have GW355 := n2_; have GE355 := n3_; clear n0_ n1_ n2_ n3_; clear hb hbox hg) | ((with_reducible refine gate_dst (N := 3) rfl ?_); (try (refine gate_guard (by rfl) ?_; dsimp only)); refine box_event ?hg (N := 3) ?hd (cs := #[.bool a1_0, .slice A1_1 l1_1.length c1_1, .int .i64 a1_2]) (t := 25) ?hr ?_; (case hd => rfl); (case hg => rfl); (case hr => first | (go_simp; done) | (go_simp; rfl)); intro gb356 hg w32 hbox hb; have n0_ := Aside0.mk (blk_below (g := gb355) (o := .cells #[.int .i64 a0_0, .bool a0_1, .slice A0_2 l0_2.length c0_2, .int .i64 a0_3] 30 (0, 0)) (by (with_reducible repeat (first | refine blk_drewN ?_ _ | refine blk_drew ?_ | refine blk_alloc ?_ _)); exact BK355.out) hb); have n1_ := Aside0.mk (below_step (by repeat (first | (with_reducible first | exact HB.out | apply below_alloc | apply pw_below_drewN | apply below_drew1 | refine below_set ?_ GE355.out) | exact HB.out)) hb); have n2_ := Aside0.mk (hbox); have n3_ := Aside0.mk ((by rw [hg]; exact (below_size (by repeat (first | (with_reducible first | exact HB.out | apply below_alloc | apply pw_below_drewN | apply below_drew1 | refine below_set ?_ GE355.out) | exact HB.out))) : w.heap.size ≤ gb356)); have n4_ := Aside0.mk ((by rw [hg]; exact (below_size (by repeat (first | (with_reducible first | exact HB.out | apply below_alloc | apply pw_below_drewN | apply below_drew1 | refine below_set ?_ GE355.out) | exact HB.out))) : w.heap.size ≤ gb356)); have n5_ := Aside0.mk ((by rw [hg]; exact Nat.ne_of_lt (blk_lt (g := gb355) (o := .cells #[.int .i64 a0_0, .bool a0_1, .slice A0_2 l0_2.length c0_2, .int .i64 a0_3] 30 (0, 0)) (by (with_reducible repeat (first | refine blk_drewN ?_ _ | refine blk_drew ?_ | refine blk_alloc ?_ _)); exact BK355.out)) : gb355 ≠ gb356)); have n6_ := Aside0.mk ((by rw [hg]; exact Nat.ne_of_gt (blk_lt (g := gb355) (o := .cells #[.int .i64 a0_0, .bool a0_1, .slice A0_2 l0_2.length c0_2, .int .i64 a0_3] 30 (0, 0)) (by (with_reducible repeat (first | refine blk_drewN ?_ _ | refine blk_drew ?_ | refine blk_alloc ?_ _)); exact BK355.out)) : gb356 ≠ gb355)); clear BK355; clear HB; have BK355 := n0_; have HB := n1_; have BK356 := n2_; have GW356 := n3_; have GE356 := n4_; have NB355_356 := n5_; have NB356_355 := n6_; clear n0_ n1_ n2_ n3_ n4_ n5_ n6_; clear hb hbox hg; have hnb33 := NB355_356.out; have hnc33 := NB356_355.out; have hcz34_0 : w32.cell? ⟨gb355, 0, none⟩ = some (.int .i64 a0_0) := (blk_cell BK355.out 0).trans rfl; have hcz34_1 : w32.cell? ⟨gb355, 1, none⟩ = some (.bool a0_1) := (blk_cell BK355.out 1).trans rfl; have hcz34_2 : w32.cell? ⟨gb355, 2, none⟩ = some (.slice A0_2 l0_2.length c0_2) := (blk_cell BK355.out 2).trans rfl; have hcz34_3 : w32.cell? ⟨gb355, 3, none⟩ = some (.int .i64 a0_3) := (blk_cell BK355.out 3).trans rfl; have hfz34_0 := blk_frozen BK355.out 0; have hfz34_1 := blk_frozen BK355.out 1; have hfz34_2 := blk_frozen BK355.out 2; have hfz34_3 := blk_frozen BK355.out 3) | ((with_reducible refine gate_callee (f := 10) rfl ?_); refine goesL_ (some 9) rfl rfl Tryz.func10 (by kernel_rfl) rfl #[.agg #[.int .i64 a0_0, .bool a0_1, .slice A0_2 l0_2.length c0_2, .int .i64 a0_3]] rfl (by (try simp only [List.map_toArray, List.map_cons, List.map_nil]); first | done | rfl | (simp only [List.length_drop, List.length_take]; rfl)) ?_; (with_reducible refine (spec_OfDec.calls k a0_0 a0_1 _ _ l0_2 a0_3 t357 t358 t361 true _ ?side1 ?side2 A3.out).mono ?_); (case side1 => repeat (first | exact (Kd.C_below HR0_2.out HB.out) | (with_reducible refine Kd.C_alloc ?_ _) | (with_reducible refine Kd.C_drewN ?_ _) | (with_reducible refine Kd.C_drew ?_))); (case side2 => exact HC0_2.out); rintro e w35 ⟨v359, rfl, ho0, hb⟩; refine ⟨_, rfl, ?_⟩; have n0_ := Aside0.mk (Kd.V_lower (Kd.V_mono (ok' := fun k_ => k_ ≠ gb355 ∧ k_ ≠ gb356) ho0 (fun k_ hk_ => ⟨(Kd.freshB (g := gb355) (o := .cells #[.int .i64 a0_0, .bool a0_1, .slice A0_2 l0_2.length c0_2, .int .i64 a0_3] 30 (0, 0)) (by (with_reducible repeat (first | refine blk_drewN ?_ _ | refine blk_drew ?_ | refine blk_alloc ?_ _)); exact BK355.out) k_ hk_), (Kd.freshB (g := gb356) (o := .cells #[.bool a1_0, .slice A1_1 l1_1.length c1_1, .int .i64 a1_2] 25 (0, 0)) (by (with_reducible repeat (first | refine blk_drewN ?_ _ | refine blk_drew ?_ | refine blk_alloc ?_ _)); exact BK356.out) k_ hk_)⟩)) (below_size (by repeat (first | (with_reducible first | exact HB.out | apply below_alloc | apply pw_below_drewN | apply below_drew1 | refine below_set ?_ GE355.out | refine below_set ?_ GE356.out) | exact HB.out)))); have n1_ := Aside0.mk (blk_below (g := gb355) (o := .cells #[.int .i64 a0_0, .bool a0_1, .slice A0_2 l0_2.length c0_2, .int .i64 a0_3] 30 (0, 0)) (by (with_reducible repeat (first | refine blk_drewN ?_ _ | refine blk_drew ?_ | refine blk_alloc ?_ _)); exact BK355.out) hb); have n2_ := Aside0.mk (blk_below (g := gb356) (o := .cells #[.bool a1_0, .slice A1_1 l1_1.length c1_1, .int .i64 a1_2] 25 (0, 0)) (by (with_reducible repeat (first | refine blk_drewN ?_ _ | refine blk_drew ?_ | refine blk_alloc ?_ _)); exact BK356.out) hb); have n3_ := Aside0.mk (below_step (by repeat (first | (with_reducible first | exact HB.out | apply below_alloc | apply pw_below_drewN | apply below_drew1 | refine below_set ?_ GE355.out | refine below_set ?_ GE356.out) | exact HB.out)) hb); clear BK355; clear BK356; clear HB; have HO360 := n0_; have BK355 := n1_; have BK356 := n2_; have HB := n3_; clear n0_ n1_ n2_ n3_; (try clear hb); (try clear hb2); (try clear hk); (try clear hi); (try clear ho0)) | ((with_reducible refine gate_dst (N := 5) rfl ?_); (try (refine gate_guard (by rfl) ?_; dsimp only)); refine box_event ?hg (N := 5) ?hd (cs := #[.bool false, .slice none 0 0, .int .i64 0]) (t := 25) ?hr ?_; (case hd => rfl); (case hg => rfl); (case hr => first | (go_simp; done) | (go_simp; rfl)); intro gb363 hg w36 hbox hb; have n0_ := Aside0.mk (Kd.V_below (Kd.V_elderB (by (with_reducible repeat (first | apply Kd.V_alloc | apply Kd.V_drewN | apply Kd.V_drew)); exact HO360.out) gb363 (Nat.le_of_eq hg.symm)) hb); have n1_ := Aside0.mk (blk_below (g := gb355) (o := .cells #[.int .i64 a0_0, .bool a0_1, .slice A0_2 l0_2.length c0_2, .int .i64 a0_3] 30 (0, 0)) (by (with_reducible repeat (first | refine blk_drewN ?_ _ | refine blk_drew ?_ | refine blk_alloc ?_ _)); exact BK355.out) hb); have n2_ := Aside0.mk (blk_below (g := gb356) (o := .cells #[.bool a1_0, .slice A1_1 l1_1.length c1_1, .int .i64 a1_2] 25 (0, 0)) (by (with_reducible repeat (first | refine blk_drewN ?_ _ | refine blk_drew ?_ | refine blk_alloc ?_ _)); exact BK356.out) hb); have n3_ := Aside0.mk (below_step (by repeat (first | (with_reducible first | exact HB.out | apply below_alloc | apply pw_below_drewN | apply below_drew1 | refine below_set ?_ GE355.out | refine below_set ?_ GE356.out) | exact HB.out)) hb); have n4_ := Aside0.mk (hbox); have n5_ := Aside0.mk ((by rw [hg]; exact (below_size (by repeat (first | (with_reducible first | exact HB.out | apply below_alloc | apply pw_below_drewN | apply below_drew1 | refine below_set ?_ GE355.out | refine below_set ?_ GE356.out) | exact HB.out))) : w.heap.size ≤ gb363)); have n6_ := Aside0.mk ((by rw [hg]; exact (below_size (by repeat (first | (with_reducible first | exact HB.out | apply below_alloc | apply pw_below_drewN | apply below_drew1 | refine below_set ?_ GE355.out | refine below_set ?_ GE356.out) | exact HB.out))) : w.heap.size ≤ gb363)); have n7_ := Aside0.mk ((by rw [hg]; exact Nat.ne_of_lt (blk_lt (g := gb355) (o := .cells #[.int .i64 a0_0, .bool a0_1, .slice A0_2 l0_2.length c0_2, .int .i64 a0_3] 30 (0, 0)) (by (with_reducible repeat (first | refine blk_drewN ?_ _ | refine blk_drew ?_ | refine blk_alloc ?_ _)); exact BK355.out)) : gb355 ≠ gb363)); have n8_ := Aside0.mk ((by rw [hg]; exact Nat.ne_of_gt (blk_lt (g := gb355) (o := .cells #[.int .i64 a0_0, .bool a0_1, .slice A0_2 l0_2.length c0_2, .int .i64 a0_3] 30 (0, 0)) (by (with_reducible repeat (first | refine blk_drewN ?_ _ | refine blk_drew ?_ | refine blk_alloc ?_ _)); exact BK355.out)) : gb363 ≠ gb355)); have n9_ := Aside0.mk ((by rw [hg]; exact Nat.ne_of_lt (blk_lt (g := gb356) (o := .cells #[.bool a1_0, .slice A1_1 l1_1.length c1_1, .int .i64 a1_2] 25 (0, 0)) (by (with_reducible repeat (first | refine blk_drewN ?_ _ | refine blk_drew ?_ | refine blk_alloc ?_ _)); exact BK356.out)) : gb356 ≠ gb363)); have n10_ := Aside0.mk ((by rw [hg]; exact Nat.ne_of_gt (blk_lt (g := gb356) (o := .cells #[.bool a1_0, .slice A1_1 l1_1.length c1_1, .int .i64 a1_2] 25 (0, 0)) (by (with_reducible repeat (first | refine blk_drewN ?_ _ | refine blk_drew ?_ | refine blk_alloc ?_ _)); exact BK356.out)) : gb363 ≠ gb356)); clear HO360; clear BK355; clear BK356; clear HB; have HO360 := n0_; have BK355 := n1_; have BK356 := n2_; have HB := n3_; have BK363 := n4_; have GW363 := n5_; have GE363 := n6_; have NB355_363 := n7_; have NB363_355 := n8_; have NB356_363 := n9_; have NB363_356 := n10_; clear n0_ n1_ n2_ n3_ n4_ n5_ n6_ n7_ n8_ n9_ n10_; clear hb hbox hg; have hnb37 := NB363_355.out; have hnc37 := NB355_363.out; have hnb38 := NB363_356.out; have hnc38 := NB356_363.out; have hcz39_0 : w36.cell? ⟨gb363, 0, none⟩ = some (.bool false) := (blk_cell BK363.out 0).trans rfl; have hcz39_1 : w36.cell? ⟨gb363, 1, none⟩ = some (.slice none 0 0) := (blk_cell BK363.out 1).trans rfl; have hcz39_2 : w36.cell? ⟨gb363, 2, none⟩ = some (.int .i64 0) := (blk_cell BK363.out 2).trans rfl; have hfz39_0 := blk_frozen BK363.out 0; have hfz39_1 := blk_frozen BK363.out 1; have hfz39_2 := blk_frozen BK363.out 2; obtain ⟨Ao40, co40, eo40⟩ := Kd.V_slice HO360.out; subst eo40; have hcz41_0 : w36.cell? ⟨gb356, 0, none⟩ = some (.bool a1_0) := (blk_cell BK356.out 0).trans rfl; have hcz41_1 : w36.cell? ⟨gb356, 1, none⟩ = some (.slice A1_1 l1_1.length c1_1) := (blk_cell BK356.out 1).trans rfl; have hcz41_2 : w36.cell? ⟨gb356, 2, none⟩ = some (.int .i64 a1_2) := (blk_cell BK356.out 2).trans rfl; have hfz41_0 := blk_frozen BK356.out 0; have hfz41_1 := blk_frozen BK356.out 1; have hfz41_2 := blk_frozen BK356.out 2) | (go_at_call 28; (with_reducible refine (spec_Cmp.calls k _ _ t358 _ _ l1_1 t364 _ ?side1 ?side2 ?side3 ?side4 A5.out).mono ?_); (case side1 => refine (Kd.V_reads' (e := 3) (base := w.heap.size) (ok := fun k_ => ((k_ ≠ gb355 ∧ k_ ≠ gb356) ∧ k_ ≠ gb363)) (n := t358.length) (c := co40) ?_).2.2; exact (by (with_reducible repeat (first | apply Kd.V_alloc | apply Kd.V_drewN | apply Kd.V_drew)); exact (Kd.V_mono (Kd.V_far (p := ⟨gb363, 2, none⟩) (Kd.V_far (p := ⟨gb363, 1, none⟩) (Kd.V_far (p := ⟨gb363, 0, none⟩) (Kd.V_mono HO360.out (fun k_ hk => (⟨hk, hk.2⟩ : _ ∧ k_ ≠ gb363))) (fun _ hk => hk.2) (.bool t357)) (fun _ hk => hk.2) (.slice Ao40 t358.length co40)) (fun _ hk => hk.2) (.int .i64 t361)) (fun _ h_ => h_.1)))); (case side2 => exact (Kd.V_reads' HO360.out).2.1); (case side3 => exact Kd.C_below HR1_1.out (by repeat (first | (with_reducible first | exact HB.out | apply below_alloc | apply pw_below_drewN | apply below_drew1 | refine below_set ?_ GE355.out | refine below_set ?_ GE356.out | refine below_set ?_ GE363.out) | exact HB.out))); (case side4 => exact HC1_1.out); rintro e w' ⟨rfl, ⟨nd, rfl⟩⟩))
        go_ret
        exact ⟨by first | rfl | (simp [errW_none, errW_some] <;> rfl) | (simp [*, errW_none, errW_some] <;> rfl), by repeat (first | (with_reducible first | exact HB.out | apply below_alloc | apply pw_below_drewN | apply below_drew1 | refine below_set ?_ GE355.out | refine below_set ?_ GE356.out | refine below_set ?_ GE363.out) | exact HB.out)⟩
    · rw [if_neg c6] at H
      have c6b0 : (t364 == 0) = false := beq_eq_false_iff_ne.mpr c6
      have c6b1 : (t364 != 0) = true := bne_iff_ne.mpr c6
      obtain rfl := Option.some.inj H
      go_enter Tryz.func11, Tryz.ntmps11
      go_wp2_with (first | ((with_reducible refine gate_dst (N := 2) rfl ?_); (try (refine gate_guard (by rfl) ?_; dsimp only)); refine box_event ?hg (N := 2) ?hd (cs := #[.int .i64 a0_0, .bool a0_1, .slice A0_2 l0_2.length c0_2, .int .i64 a0_3]) (t := 30) ?hr ?_; (case hd => rfl); (case hg => rfl); (case hr => first | (go_simp; done) | (go_simp; rfl)); intro gb355 hg w42 hbox hb; have n0_ := Aside0.mk (below_step (by repeat (first | (with_reducible first | exact HB.out | apply below_alloc | apply pw_below_drewN | apply below_drew1) | exact HB.out)) hb); have n1_ := Aside0.mk (hbox); have n2_ := Aside0.mk ((by rw [hg]; exact (below_size (by repeat (first | (with_reducible first | exact HB.out | apply below_alloc | apply pw_below_drewN | apply below_drew1) | exact HB.out))) : w.heap.size ≤ gb355)); have n3_ := Aside0.mk ((by rw [hg]; exact (below_size (by repeat (first | (with_reducible first | exact HB.out | apply below_alloc | apply pw_below_drewN | apply below_drew1) | exact HB.out))) : w.heap.size ≤ gb355)); clear HB; have HB := n0_; have BK355 := n1_; have GW355 := n2_; have GE355 := n3_; clear n0_ n1_ n2_ n3_; clear hb hbox hg) | ((with_reducible refine gate_dst (N := 3) rfl ?_); (try (refine gate_guard (by rfl) ?_; dsimp only)); refine box_event ?hg (N := 3) ?hd (cs := #[.bool a1_0, .slice A1_1 l1_1.length c1_1, .int .i64 a1_2]) (t := 25) ?hr ?_; (case hd => rfl); (case hg => rfl); (case hr => first | (go_simp; done) | (go_simp; rfl)); intro gb356 hg w43 hbox hb; have n0_ := Aside0.mk (blk_below (g := gb355) (o := .cells #[.int .i64 a0_0, .bool a0_1, .slice A0_2 l0_2.length c0_2, .int .i64 a0_3] 30 (0, 0)) (by (with_reducible repeat (first | refine blk_drewN ?_ _ | refine blk_drew ?_ | refine blk_alloc ?_ _)); exact BK355.out) hb); have n1_ := Aside0.mk (below_step (by repeat (first | (with_reducible first | exact HB.out | apply below_alloc | apply pw_below_drewN | apply below_drew1 | refine below_set ?_ GE355.out) | exact HB.out)) hb); have n2_ := Aside0.mk (hbox); have n3_ := Aside0.mk ((by rw [hg]; exact (below_size (by repeat (first | (with_reducible first | exact HB.out | apply below_alloc | apply pw_below_drewN | apply below_drew1 | refine below_set ?_ GE355.out) | exact HB.out))) : w.heap.size ≤ gb356)); have n4_ := Aside0.mk ((by rw [hg]; exact (below_size (by repeat (first | (with_reducible first | exact HB.out | apply below_alloc | apply pw_below_drewN | apply below_drew1 | refine below_set ?_ GE355.out) | exact HB.out))) : w.heap.size ≤ gb356)); have n5_ := Aside0.mk ((by rw [hg]; exact Nat.ne_of_lt (blk_lt (g := gb355) (o := .cells #[.int .i64 a0_0, .bool a0_1, .slice A0_2 l0_2.length c0_2, .int .i64 a0_3] 30 (0, 0)) (by (with_reducible repeat (first | refine blk_drewN ?_ _ | refine blk_drew ?_ | refine blk_alloc ?_ _)); exact BK355.out)) : gb355 ≠ gb356)); have n6_ := Aside0.mk ((by rw [hg]; exact Nat.ne_of_gt (blk_lt (g := gb355) (o := .cells #[.int .i64 a0_0, .bool a0_1, .slice A0_2 l0_2.length c0_2, .int .i64 a0_3] 30 (0, 0)) (by (with_reducible repeat (first | refine blk_drewN ?_ _ | refine blk_drew ?_ | refine blk_alloc ?_ _)); exact BK355.out)) : gb356 ≠ gb355)); clear BK355; clear HB; have BK355 := n0_; have HB := n1_; have BK356 := n2_; have GW356 := n3_; have GE356 := n4_; have NB355_356 := n5_; have NB356_355 := n6_; clear n0_ n1_ n2_ n3_ n4_ n5_ n6_; clear hb hbox hg; have hnb44 := NB355_356.out; have hnc44 := NB356_355.out; have hcz45_0 : w43.cell? ⟨gb355, 0, none⟩ = some (.int .i64 a0_0) := (blk_cell BK355.out 0).trans rfl; have hcz45_1 : w43.cell? ⟨gb355, 1, none⟩ = some (.bool a0_1) := (blk_cell BK355.out 1).trans rfl; have hcz45_2 : w43.cell? ⟨gb355, 2, none⟩ = some (.slice A0_2 l0_2.length c0_2) := (blk_cell BK355.out 2).trans rfl; have hcz45_3 : w43.cell? ⟨gb355, 3, none⟩ = some (.int .i64 a0_3) := (blk_cell BK355.out 3).trans rfl; have hfz45_0 := blk_frozen BK355.out 0; have hfz45_1 := blk_frozen BK355.out 1; have hfz45_2 := blk_frozen BK355.out 2; have hfz45_3 := blk_frozen BK355.out 3) | ((with_reducible refine gate_callee (f := 10) rfl ?_); refine goesL_ (some 9) rfl rfl Tryz.func10 (by kernel_rfl) rfl #[.agg #[.int .i64 a0_0, .bool a0_1, .slice A0_2 l0_2.length c0_2, .int .i64 a0_3]] rfl (by (try simp only [List.map_toArray, List.map_cons, List.map_nil]); first | done | rfl | (simp only [List.length_drop, List.length_take]; rfl)) ?_; (with_reducible refine (spec_OfDec.calls k a0_0 a0_1 _ _ l0_2 a0_3 t357 t358 t361 true _ ?side1 ?side2 A3.out).mono ?_); (case side1 => repeat (first | exact (Kd.C_below HR0_2.out HB.out) | (with_reducible refine Kd.C_alloc ?_ _) | (with_reducible refine Kd.C_drewN ?_ _) | (with_reducible refine Kd.C_drew ?_))); (case side2 => exact HC0_2.out); rintro e w46 ⟨v359, rfl, ho0, hb⟩; refine ⟨_, rfl, ?_⟩; have n0_ := Aside0.mk (Kd.V_lower (Kd.V_mono (ok' := fun k_ => k_ ≠ gb355 ∧ k_ ≠ gb356) ho0 (fun k_ hk_ => ⟨(Kd.freshB (g := gb355) (o := .cells #[.int .i64 a0_0, .bool a0_1, .slice A0_2 l0_2.length c0_2, .int .i64 a0_3] 30 (0, 0)) (by (with_reducible repeat (first | refine blk_drewN ?_ _ | refine blk_drew ?_ | refine blk_alloc ?_ _)); exact BK355.out) k_ hk_), (Kd.freshB (g := gb356) (o := .cells #[.bool a1_0, .slice A1_1 l1_1.length c1_1, .int .i64 a1_2] 25 (0, 0)) (by (with_reducible repeat (first | refine blk_drewN ?_ _ | refine blk_drew ?_ | refine blk_alloc ?_ _)); exact BK356.out) k_ hk_)⟩)) (below_size (by repeat (first | (with_reducible first | exact HB.out | apply below_alloc | apply pw_below_drewN | apply below_drew1 | refine below_set ?_ GE355.out | refine below_set ?_ GE356.out) | exact HB.out)))); have n1_ := Aside0.mk (blk_below (g := gb355) (o := .cells #[.int .i64 a0_0, .bool a0_1, .slice A0_2 l0_2.length c0_2, .int .i64 a0_3] 30 (0, 0)) (by (with_reducible repeat (first | refine blk_drewN ?_ _ | refine blk_drew ?_ | refine blk_alloc ?_ _)); exact BK355.out) hb); have n2_ := Aside0.mk (blk_below (g := gb356) (o := .cells #[.bool a1_0, .slice A1_1 l1_1.length c1_1, .int .i64 a1_2] 25 (0, 0)) (by (with_reducible repeat (first | refine blk_drewN ?_ _ | refine blk_drew ?_ | refine blk_alloc ?_ _)); exact BK356.out) hb); have n3_ := Aside0.mk (below_step (by repeat (first | (with_reducible first | exact HB.out | apply below_alloc | apply pw_below_drewN | apply below_drew1 | refine below_set ?_ GE355.out | refine below_set ?_ GE356.out) | exact HB.out)) hb); clear BK355; clear BK356; clear HB; have HO360 := n0_; have BK355 := n1_; have BK356 := n2_; have HB := n3_; clear n0_ n1_ n2_ n3_; (try clear hb); (try clear hb2); (try clear hk); (try clear hi); (try clear ho0)) | ((with_reducible refine gate_dst (N := 5) rfl ?_); (try (refine gate_guard (by rfl) ?_; dsimp only)); refine box_event ?hg (N := 5) ?hd (cs := #[.bool false, .slice none 0 0, .int .i64 0]) (t := 25) ?hr ?_; (case hd => rfl); (case hg => rfl); (case hr => first | (go_simp; done) | (go_simp; rfl)); intro gb363 hg w47 hbox hb; have n0_ := Aside0.mk (Kd.V_below (Kd.V_elderB (by (with_reducible repeat (first | apply Kd.V_alloc | apply Kd.V_drewN | apply Kd.V_drew)); exact HO360.out) gb363 (Nat.le_of_eq hg.symm)) hb); have n1_ := Aside0.mk (blk_below (g := gb355) (o := .cells #[.int .i64 a0_0, .bool a0_1, .slice A0_2 l0_2.length c0_2, .int .i64 a0_3] 30 (0, 0)) (by (with_reducible repeat (first | refine blk_drewN ?_ _ | refine blk_drew ?_ | refine blk_alloc ?_ _)); exact BK355.out) hb); have n2_ := Aside0.mk (blk_below (g := gb356) (o := .cells #[.bool a1_0, .slice A1_1 l1_1.length c1_1, .int .i64 a1_2] 25 (0, 0)) (by (with_reducible repeat (first | refine blk_drewN ?_ _ | refine blk_drew ?_ | refine blk_alloc ?_ _)); exact BK356.out) hb); have n3_ := Aside0.mk (below_step (by repeat (first | (with_reducible first | exact HB.out | apply below_alloc | apply pw_below_drewN | apply below_drew1 | refine below_set ?_ GE355.out | refine below_set ?_ GE356.out) | exact HB.out)) hb); have n4_ := Aside0.mk (hbox); have n5_ := Aside0.mk ((by rw [hg]; exact (below_size (by repeat (first | (with_reducible first | exact HB.out | apply below_alloc | apply pw_below_drewN | apply below_drew1 | refine below_set ?_ GE355.out | refine below_set ?_ GE356.out) | exact HB.out))) : w.heap.size ≤ gb363)); have n6_ := Aside0.mk ((by rw [hg]; exact (below_size (by repeat (first | (with_reducible first | exact HB.out | apply below_alloc | apply pw_below_drewN | apply below_drew1 | refine below_set ?_ GE355.out | refine below_set ?_ GE356.out) | exact HB.out))) : w.heap.size ≤ gb363)); have n7_ := Aside0.mk ((by rw [hg]; exact Nat.ne_of_lt (blk_lt (g := gb355) (o := .cells #[.int .i64 a0_0, .bool a0_1, .slice A0_2 l0_2.length c0_2, .int .i64 a0_3] 30 (0, 0)) (by (with_reducible repeat (first | refine blk_drewN ?_ _ | refine blk_drew ?_ | refine blk_alloc ?_ _)); exact BK355.out)) : gb355 ≠ gb363)); have n8_ := Aside0.mk ((by rw [hg]; exact Nat.ne_of_gt (blk_lt (g := gb355) (o := .cells #[.int .i64 a0_0, .bool a0_1, .slice A0_2 l0_2.length c0_2, .int .i64 a0_3] 30 (0, 0)) (by (with_reducible repeat (first | refine blk_drewN ?_ _ | refine blk_drew ?_ | refine blk_alloc ?_ _)); exact BK355.out)) : gb363 ≠ gb355)); have n9_ := Aside0.mk ((by rw [hg]; exact Nat.ne_of_lt (blk_lt (g := gb356) (o := .cells #[.bool a1_0, .slice A1_1 l1_1.length c1_1, .int .i64 a1_2] 25 (0, 0)) (by (with_reducible repeat (first | refine blk_drewN ?_ _ | refine blk_drew ?_ | refine blk_alloc ?_ _)); exact BK356.out)) : gb356 ≠ gb363)); have n10_ := Aside0.mk ((by rw [hg]; exact Nat.ne_of_gt (blk_lt (g := gb356) (o := .cells #[.bool a1_0, .slice A1_1 l1_1.length c1_1, .int .i64 a1_2] 25 (0, 0)) (by (with_reducible repeat (first | refine blk_drewN ?_ _ | refine blk_drew ?_ | refine blk_alloc ?_ _)); exact BK356.out)) : gb363 ≠ gb356)); clear HO360; clear BK355; clear BK356; clear HB; have HO360 := n0_; have BK355 := n1_; have BK356 := n2_; have HB := n3_; have BK363 := n4_; have GW363 := n5_; have GE363 := n6_; have NB355_363 := n7_; have NB363_355 := n8_; have NB356_363 := n9_; have NB363_356 := n10_; clear n0_ n1_ n2_ n3_ n4_ n5_ n6_ n7_ n8_ n9_ n10_; clear hb hbox hg; have hnb48 := NB363_355.out; have hnc48 := NB355_363.out; have hnb49 := NB363_356.out; have hnc49 := NB356_363.out; have hcz50_0 : w47.cell? ⟨gb363, 0, none⟩ = some (.bool false) := (blk_cell BK363.out 0).trans rfl; have hcz50_1 : w47.cell? ⟨gb363, 1, none⟩ = some (.slice none 0 0) := (blk_cell BK363.out 1).trans rfl; have hcz50_2 : w47.cell? ⟨gb363, 2, none⟩ = some (.int .i64 0) := (blk_cell BK363.out 2).trans rfl; have hfz50_0 := blk_frozen BK363.out 0; have hfz50_1 := blk_frozen BK363.out 1; have hfz50_2 := blk_frozen BK363.out 2; obtain ⟨Ao51, co51, eo51⟩ := Kd.V_slice HO360.out; subst eo51; have hcz52_0 : w47.cell? ⟨gb356, 0, none⟩ = some (.bool a1_0) := (blk_cell BK356.out 0).trans rfl; have hcz52_1 : w47.cell? ⟨gb356, 1, none⟩ = some (.slice A1_1 l1_1.length c1_1) := (blk_cell BK356.out 1).trans rfl; have hcz52_2 : w47.cell? ⟨gb356, 2, none⟩ = some (.int .i64 a1_2) := (blk_cell BK356.out 2).trans rfl; have hfz52_0 := blk_frozen BK356.out 0; have hfz52_1 := blk_frozen BK356.out 1; have hfz52_2 := blk_frozen BK356.out 2) | (go_at_call 28; (with_reducible refine (spec_Cmp.calls k _ _ t358 _ _ l1_1 t364 _ ?side1 ?side2 ?side3 ?side4 A5.out).mono ?_); (case side1 => refine (Kd.V_reads' (e := 3) (base := w.heap.size) (ok := fun k_ => ((k_ ≠ gb355 ∧ k_ ≠ gb356) ∧ k_ ≠ gb363)) (n := t358.length) (c := co51) ?_).2.2; exact (by (with_reducible repeat (first | apply Kd.V_alloc | apply Kd.V_drewN | apply Kd.V_drew)); exact (Kd.V_mono (Kd.V_far (p := ⟨gb363, 2, none⟩) (Kd.V_far (p := ⟨gb363, 1, none⟩) (Kd.V_far (p := ⟨gb363, 0, none⟩) (Kd.V_mono HO360.out (fun k_ hk => (⟨hk, hk.2⟩ : _ ∧ k_ ≠ gb363))) (fun _ hk => hk.2) (.bool t357)) (fun _ hk => hk.2) (.slice Ao51 t358.length co51)) (fun _ hk => hk.2) (.int .i64 t361)) (fun _ h_ => h_.1)))); (case side2 => exact (Kd.V_reads' HO360.out).2.1); (case side3 => exact Kd.C_below HR1_1.out (by repeat (first | (with_reducible first | exact HB.out | apply below_alloc | apply pw_below_drewN | apply below_drew1 | refine below_set ?_ GE355.out | refine below_set ?_ GE356.out | refine below_set ?_ GE363.out) | exact HB.out))); (case side4 => exact HC1_1.out); rintro e w' ⟨rfl, ⟨nd, rfl⟩⟩))
      go_ret
      exact ⟨by first | rfl | (simp [errW_none, errW_some] <;> rfl) | (simp [*, errW_none, errW_some] <;> rfl), by repeat (first | (with_reducible first | exact HB.out | apply below_alloc | apply pw_below_drewN | apply below_drew1 | refine below_set ?_ GE355.out | refine below_set ?_ GE356.out | refine below_set ?_ GE363.out) | exact HB.out)⟩
  · replace c4 := Bool.eq_false_iff.mpr c4
    subst c4
    have H1 : (some false) = some r := by rw [if_neg (show ¬ (false = true) by decide)] at H; exact H
    clear H
    have H := H1
    clear H1
    obtain rfl := Option.some.inj H
    go_enter Tryz.func11, Tryz.ntmps11
    go_wp2_with (first | ((with_reducible refine gate_dst (N := 2) rfl ?_); (try (refine gate_guard (by rfl) ?_; dsimp only)); refine box_event ?hg (N := 2) ?hd (cs := #[.int .i64 a0_0, .bool a0_1, .slice A0_2 l0_2.length c0_2, .int .i64 a0_3]) (t := 30) ?hr ?_; (case hd => rfl); (case hg => rfl); (case hr => first | (go_simp; done) | (go_simp; rfl)); intro gb355 hg w53 hbox hb; have n0_ := Aside0.mk (below_step (by repeat (first | (with_reducible first | exact HB.out | apply below_alloc | apply pw_below_drewN | apply below_drew1) | exact HB.out)) hb); have n1_ := Aside0.mk (hbox); have n2_ := Aside0.mk ((by rw [hg]; exact (below_size (by repeat (first | (with_reducible first | exact HB.out | apply below_alloc | apply pw_below_drewN | apply below_drew1) | exact HB.out))) : w.heap.size ≤ gb355)); have n3_ := Aside0.mk ((by rw [hg]; exact (below_size (by repeat (first | (with_reducible first | exact HB.out | apply below_alloc | apply pw_below_drewN | apply below_drew1) | exact HB.out))) : w.heap.size ≤ gb355)); clear HB; have HB := n0_; have BK355 := n1_; have GW355 := n2_; have GE355 := n3_; clear n0_ n1_ n2_ n3_; clear hb hbox hg) | ((with_reducible refine gate_dst (N := 3) rfl ?_); (try (refine gate_guard (by rfl) ?_; dsimp only)); refine box_event ?hg (N := 3) ?hd (cs := #[.bool a1_0, .slice A1_1 l1_1.length c1_1, .int .i64 a1_2]) (t := 25) ?hr ?_; (case hd => rfl); (case hg => rfl); (case hr => first | (go_simp; done) | (go_simp; rfl)); intro gb356 hg w54 hbox hb; have n0_ := Aside0.mk (blk_below (g := gb355) (o := .cells #[.int .i64 a0_0, .bool a0_1, .slice A0_2 l0_2.length c0_2, .int .i64 a0_3] 30 (0, 0)) (by (with_reducible repeat (first | refine blk_drewN ?_ _ | refine blk_drew ?_ | refine blk_alloc ?_ _)); exact BK355.out) hb); have n1_ := Aside0.mk (below_step (by repeat (first | (with_reducible first | exact HB.out | apply below_alloc | apply pw_below_drewN | apply below_drew1 | refine below_set ?_ GE355.out) | exact HB.out)) hb); have n2_ := Aside0.mk (hbox); have n3_ := Aside0.mk ((by rw [hg]; exact (below_size (by repeat (first | (with_reducible first | exact HB.out | apply below_alloc | apply pw_below_drewN | apply below_drew1 | refine below_set ?_ GE355.out) | exact HB.out))) : w.heap.size ≤ gb356)); have n4_ := Aside0.mk ((by rw [hg]; exact (below_size (by repeat (first | (with_reducible first | exact HB.out | apply below_alloc | apply pw_below_drewN | apply below_drew1 | refine below_set ?_ GE355.out) | exact HB.out))) : w.heap.size ≤ gb356)); have n5_ := Aside0.mk ((by rw [hg]; exact Nat.ne_of_lt (blk_lt (g := gb355) (o := .cells #[.int .i64 a0_0, .bool a0_1, .slice A0_2 l0_2.length c0_2, .int .i64 a0_3] 30 (0, 0)) (by (with_reducible repeat (first | refine blk_drewN ?_ _ | refine blk_drew ?_ | refine blk_alloc ?_ _)); exact BK355.out)) : gb355 ≠ gb356)); have n6_ := Aside0.mk ((by rw [hg]; exact Nat.ne_of_gt (blk_lt (g := gb355) (o := .cells #[.int .i64 a0_0, .bool a0_1, .slice A0_2 l0_2.length c0_2, .int .i64 a0_3] 30 (0, 0)) (by (with_reducible repeat (first | refine blk_drewN ?_ _ | refine blk_drew ?_ | refine blk_alloc ?_ _)); exact BK355.out)) : gb356 ≠ gb355)); clear BK355; clear HB; have BK355 := n0_; have HB := n1_; have BK356 := n2_; have GW356 := n3_; have GE356 := n4_; have NB355_356 := n5_; have NB356_355 := n6_; clear n0_ n1_ n2_ n3_ n4_ n5_ n6_; clear hb hbox hg; have hnb55 := NB355_356.out; have hnc55 := NB356_355.out; have hcz56_0 : w54.cell? ⟨gb355, 0, none⟩ = some (.int .i64 a0_0) := (blk_cell BK355.out 0).trans rfl; have hcz56_1 : w54.cell? ⟨gb355, 1, none⟩ = some (.bool a0_1) := (blk_cell BK355.out 1).trans rfl; have hcz56_2 : w54.cell? ⟨gb355, 2, none⟩ = some (.slice A0_2 l0_2.length c0_2) := (blk_cell BK355.out 2).trans rfl; have hcz56_3 : w54.cell? ⟨gb355, 3, none⟩ = some (.int .i64 a0_3) := (blk_cell BK355.out 3).trans rfl; have hfz56_0 := blk_frozen BK355.out 0; have hfz56_1 := blk_frozen BK355.out 1; have hfz56_2 := blk_frozen BK355.out 2; have hfz56_3 := blk_frozen BK355.out 3) | ((with_reducible refine gate_callee (f := 10) rfl ?_); refine goesL_ (some 9) rfl rfl Tryz.func10 (by kernel_rfl) rfl #[.agg #[.int .i64 a0_0, .bool a0_1, .slice A0_2 l0_2.length c0_2, .int .i64 a0_3]] rfl (by (try simp only [List.map_toArray, List.map_cons, List.map_nil]); first | done | rfl | (simp only [List.length_drop, List.length_take]; rfl)) ?_; (with_reducible refine (spec_OfDec.calls k a0_0 a0_1 _ _ l0_2 a0_3 t357 t358 t361 false _ ?side1 ?side2 A3.out).mono ?_); (case side1 => repeat (first | exact (Kd.C_below HR0_2.out HB.out) | (with_reducible refine Kd.C_alloc ?_ _) | (with_reducible refine Kd.C_drewN ?_ _) | (with_reducible refine Kd.C_drew ?_))); (case side2 => exact HC0_2.out); rintro e w57 ⟨v359, rfl, ho0, hb⟩; refine ⟨_, rfl, ?_⟩; have n0_ := Aside0.mk (Kd.V_lower (Kd.V_mono (ok' := fun k_ => k_ ≠ gb355 ∧ k_ ≠ gb356) ho0 (fun k_ hk_ => ⟨(Kd.freshB (g := gb355) (o := .cells #[.int .i64 a0_0, .bool a0_1, .slice A0_2 l0_2.length c0_2, .int .i64 a0_3] 30 (0, 0)) (by (with_reducible repeat (first | refine blk_drewN ?_ _ | refine blk_drew ?_ | refine blk_alloc ?_ _)); exact BK355.out) k_ hk_), (Kd.freshB (g := gb356) (o := .cells #[.bool a1_0, .slice A1_1 l1_1.length c1_1, .int .i64 a1_2] 25 (0, 0)) (by (with_reducible repeat (first | refine blk_drewN ?_ _ | refine blk_drew ?_ | refine blk_alloc ?_ _)); exact BK356.out) k_ hk_)⟩)) (below_size (by repeat (first | (with_reducible first | exact HB.out | apply below_alloc | apply pw_below_drewN | apply below_drew1 | refine below_set ?_ GE355.out | refine below_set ?_ GE356.out) | exact HB.out)))); have n1_ := Aside0.mk (blk_below (g := gb355) (o := .cells #[.int .i64 a0_0, .bool a0_1, .slice A0_2 l0_2.length c0_2, .int .i64 a0_3] 30 (0, 0)) (by (with_reducible repeat (first | refine blk_drewN ?_ _ | refine blk_drew ?_ | refine blk_alloc ?_ _)); exact BK355.out) hb); have n2_ := Aside0.mk (blk_below (g := gb356) (o := .cells #[.bool a1_0, .slice A1_1 l1_1.length c1_1, .int .i64 a1_2] 25 (0, 0)) (by (with_reducible repeat (first | refine blk_drewN ?_ _ | refine blk_drew ?_ | refine blk_alloc ?_ _)); exact BK356.out) hb); have n3_ := Aside0.mk (below_step (by repeat (first | (with_reducible first | exact HB.out | apply below_alloc | apply pw_below_drewN | apply below_drew1 | refine below_set ?_ GE355.out | refine below_set ?_ GE356.out) | exact HB.out)) hb); clear BK355; clear BK356; clear HB; have HO360 := n0_; have BK355 := n1_; have BK356 := n2_; have HB := n3_; clear n0_ n1_ n2_ n3_; (try clear hb); (try clear hb2); (try clear hk); (try clear hi); (try clear ho0)) | ((with_reducible refine gate_dst (N := 5) rfl ?_); (try (refine gate_guard (by rfl) ?_; dsimp only)); refine box_event ?hg (N := 5) ?hd (cs := #[.bool false, .slice none 0 0, .int .i64 0]) (t := 25) ?hr ?_; (case hd => rfl); (case hg => rfl); (case hr => first | (go_simp; done) | (go_simp; rfl)); intro gb363 hg w58 hbox hb; have n0_ := Aside0.mk (Kd.V_below (Kd.V_elderB (by (with_reducible repeat (first | apply Kd.V_alloc | apply Kd.V_drewN | apply Kd.V_drew)); exact HO360.out) gb363 (Nat.le_of_eq hg.symm)) hb); have n1_ := Aside0.mk (blk_below (g := gb355) (o := .cells #[.int .i64 a0_0, .bool a0_1, .slice A0_2 l0_2.length c0_2, .int .i64 a0_3] 30 (0, 0)) (by (with_reducible repeat (first | refine blk_drewN ?_ _ | refine blk_drew ?_ | refine blk_alloc ?_ _)); exact BK355.out) hb); have n2_ := Aside0.mk (blk_below (g := gb356) (o := .cells #[.bool a1_0, .slice A1_1 l1_1.length c1_1, .int .i64 a1_2] 25 (0, 0)) (by (with_reducible repeat (first | refine blk_drewN ?_ _ | refine blk_drew ?_ | refine blk_alloc ?_ _)); exact BK356.out) hb); have n3_ := Aside0.mk (below_step (by repeat (first | (with_reducible first | exact HB.out | apply below_alloc | apply pw_below_drewN | apply below_drew1 | refine below_set ?_ GE355.out | refine below_set ?_ GE356.out) | exact HB.out)) hb); have n4_ := Aside0.mk (hbox); have n5_ := Aside0.mk ((by rw [hg]; exact (below_size (by repeat (first | (with_reducible first | exact HB.out | apply below_alloc | apply pw_below_drewN | apply below_drew1 | refine below_set ?_ GE355.out | refine below_set ?_ GE356.out) | exact HB.out))) : w.heap.size ≤ gb363)); have n6_ := Aside0.mk ((by rw [hg]; exact (below_size (by repeat (first | (with_reducible first | exact HB.out | apply below_alloc | apply pw_below_drewN | apply below_drew1 | refine below_set ?_ GE355.out | refine below_set ?_ GE356.out) | exact HB.out))) : w.heap.size ≤ gb363)); have n7_ := Aside0.mk ((by rw [hg]; exact Nat.ne_of_lt (blk_lt (g := gb355) (o := .cells #[.int .i64 a0_0, .bool a0_1, .slice A0_2 l0_2.length c0_2, .int .i64 a0_3] 30 (0, 0)) (by (with_reducible repeat (first | refine blk_drewN ?_ _ | refine blk_drew ?_ | refine blk_alloc ?_ _)); exact BK355.out)) : gb355 ≠ gb363)); have n8_ := Aside0.mk ((by rw [hg]; exact Nat.ne_of_gt (blk_lt (g := gb355) (o := .cells #[.int .i64 a0_0, .bool a0_1, .slice A0_2 l0_2.length c0_2, .int .i64 a0_3] 30 (0, 0)) (by (with_reducible repeat (first | refine blk_drewN ?_ _ | refine blk_drew ?_ | refine blk_alloc ?_ _)); exact BK355.out)) : gb363 ≠ gb355)); have n9_ := Aside0.mk ((by rw [hg]; exact Nat.ne_of_lt (blk_lt (g := gb356) (o := .cells #[.bool a1_0, .slice A1_1 l1_1.length c1_1, .int .i64 a1_2] 25 (0, 0)) (by (with_reducible repeat (first | refine blk_drewN ?_ _ | refine blk_drew ?_ | refine blk_alloc ?_ _)); exact BK356.out)) : gb356 ≠ gb363)); have n10_ := Aside0.mk ((by rw [hg]; exact Nat.ne_of_gt (blk_lt (g := gb356) (o := .cells #[.bool a1_0, .slice A1_1 l1_1.length c1_1, .int .i64 a1_2] 25 (0, 0)) (by (with_reducible repeat (first | refine blk_drewN ?_ _ | refine blk_drew ?_ | refine blk_alloc ?_ _)); exact BK356.out)) : gb363 ≠ gb356)); clear HO360; clear BK355; clear BK356; clear HB; have HO360 := n0_; have BK355 := n1_; have BK356 := n2_; have HB := n3_; have BK363 := n4_; have GW363 := n5_; have GE363 := n6_; have NB355_363 := n7_; have NB363_355 := n8_; have NB356_363 := n9_; have NB363_356 := n10_; clear n0_ n1_ n2_ n3_ n4_ n5_ n6_ n7_ n8_ n9_ n10_; clear hb hbox hg; have hnb59 := NB363_355.out; have hnc59 := NB355_363.out; have hnb60 := NB363_356.out; have hnc60 := NB356_363.out; have hcz61_0 : w58.cell? ⟨gb363, 0, none⟩ = some (.bool false) := (blk_cell BK363.out 0).trans rfl; have hcz61_1 : w58.cell? ⟨gb363, 1, none⟩ = some (.slice none 0 0) := (blk_cell BK363.out 1).trans rfl; have hcz61_2 : w58.cell? ⟨gb363, 2, none⟩ = some (.int .i64 0) := (blk_cell BK363.out 2).trans rfl; have hfz61_0 := blk_frozen BK363.out 0; have hfz61_1 := blk_frozen BK363.out 1; have hfz61_2 := blk_frozen BK363.out 2; obtain ⟨Ao62, co62, eo62⟩ := Kd.V_slice HO360.out; subst eo62))
    go_ret
    exact ⟨by first | rfl | (simp [errW_none, errW_some] <;> rfl) | (simp [*, errW_none, errW_some] <;> rfl), by repeat (first | (with_reducible first | exact HB.out | apply below_alloc | apply pw_below_drewN | apply below_drew1 | refine below_set ?_ GE355.out | refine below_set ?_ GE356.out | refine below_set ?_ GE363.out) | exact HB.out)⟩
end Go.Proofs.YteokhhepnoelhaaGreatDoor.PFnParse
