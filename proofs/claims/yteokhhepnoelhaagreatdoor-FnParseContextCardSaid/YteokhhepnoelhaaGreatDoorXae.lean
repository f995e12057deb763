/-
  More words of the reference's printed functions: the kit's print (print.sh) wrote these texts for this claim; cut here to what is used.
-/
import Derived.Below
import Derived.Deep.Draws
import Derived.Deep.AppendLies
import Derived.Maps.AppendAt
import Derived.OwnWalk
import Derived.Laws.BytesArg
import Derived.Laws.MakeOwn
import Derived.Laws.OwnMore
import Derived.Deep.OwnRows
import Derived.Tactics
import Derived.Lib.ConvBytes
import Derived.Laws.Slices
import Derived.WalkKit
import Derived.KernelRfl
import Derived.RowKit3
import Derived.Deep.LoopGhost
import Derived.Deep.QuietTactic
import Derived.BigQuiet
import Derived.WideLaws
import Derived.Deep.DeepCutAuto
import Derived.Deep.CutBlock
import Derived.Deep.RegionHeld3
import Derived.Laws.Rows
import Derived.Lib.AppendStr
import Derived.ArgAppend
import Derived.Laws.IdiomCopy
import Derived.RowKit
import Derived.Test.YteokhhepnoelhaaGreatDoorXaa
import Derived.Test.YteokhhepnoelhaaGreatDoorProg
import Derived.OrdersHeld
import Derived.Laws.BitsLemmas
import Derived.Test.YteokhhepnoelhaaGreatDoorXab
import Derived.Test.YteokhhepnoelhaaGreatDoorXad
import Derived.Test.YteokhhepnoelhaaGreatDoorXac
set_option linter.unusedVariables false
set_option linter.unusedSimpArgs false
namespace Go.Proofs.YteokhhepnoelhaaGreatDoorW.PrintWords
open Go.RowKit
theorem own_string {P : Program} {w : World} {base n : Nat} {e' src dst e : TypeId} {v : Value} {xs : List Int} (hs : P.underlying src = some (.slice e)) (he : P.underlying e = some (.int .u8)) (hd : P.underlying dst = some .string)
 (h : w.ownsRow base e' 1 v n (nums .u8 xs)) : (convert src dst v).run P w = .ok (.string (strOfNums xs)) w := by
 have hl : xs.length = n := by have := h.1; simp [nums] at this; exact this
 rcases h.2 with ⟨rfl, rfl⟩ | ⟨g, cap, cur, rfl, _⟩
 · obtain rfl : xs = [] := List.eq_nil_of_length_eq_zero hl;exact run_convert_bytes_nil w src e hs he 0 0 dst hd
 · refine run_convert_bytes_arg w src e hs he g 0 n cap xs hl (fun i hi => ?_) dst hd;have hc := h.cells (g := g) rfl i (.int .u8 (xs.getD i 0)) (by simp [nums, List.getElem?_eq_getElem (show i < xs.length by omega), List.getD_eq_getElem?_getD]);have ha : (⟨g, 0, none⟩ : Addr).add i = ⟨g, 0 + i, none⟩ := by unfold Addr.add; split <;> simp_all
   rwa [ha] at hc
namespace Kd
section
variable {α β : Type} {d : Kd α} {d' : Kd β} {e e' : Nat} {w w1 W : World} {base b b' : Nat} {ok ok' okv oku : Nat → Prop} {v u : Value} {xs : List α} {ys : List β}
theorem R_lt (h : d.R e w base ok v xs) : ∀ k, v.ownBlock = some k → k < w.heap.size := by
 obtain ⟨inner, ho⟩ := R_own h;exact own_lt ho
theorem R_base (h : d.R e w base ok v xs) : ∀ k, v.ownBlock = some k → base ≤ k := by
 obtain ⟨inner, ho⟩ := R_own h;exact own_base ho
end
end Kd
namespace Kd
section
variable {α : Type} {d : Kd α} {e e' : Nat} {w w1 W : World} {base : Nat} {ok : Nat → Prop} {u v : Value} {xs : List α}
theorem fresh' (hlt : ∀ k, u.ownBlock = some k → k < W.heap.size) : ∀ k, W.heap.size ≤ k → some k ≠ u.ownBlock := fun k hk he => by have := hlt k he.symm; omega
end
end Kd
end Go.Proofs.YteokhhepnoelhaaGreatDoorW.PrintWords
namespace Go.Proofs.YteokhhepnoelhaaGreatDoorW.PrintWords
open Go.RowKit
namespace Kd
structure Heap {α : Type} (d : Kd α) : Prop where
 K : ∀ {w w1 : World} {x : α} {cs : List Value}, (∀ k, k < w.heap.size → w1.heap[k]? = w.heap[k]?) → d.K w x cs → d.K w1 x cs
theorem cell_heap {w w1 : World} (hb : ∀ k, k < w.heap.size → w1.heap[k]? = w.heap[k]?) {a : Addr} {v : Value} (h : w.cell? a = some v) : w1.cell? a = some v := by
 have := hb a.block (World.block_lt_of_cell? w a h);simpa [World.cell?, this] using h
theorem Heap.C {α : Type} {d : Kd α} (hd : Heap d) {w w1 : World} {A : Option Addr} {n : Nat} {xs : List α} (hb : ∀ k, k < w.heap.size → w1.heap[k]? = w.heap[k]?) (h : d.C w A n xs) : d.C w1 A n xs :=
 ⟨h.1, h.2.1, fun hn => by
  obtain ⟨ad, e, hc⟩ := h.2.2 hn;refine ⟨ad, e, fun j p hj => ?_⟩;obtain ⟨c, hs, hr, hcell⟩ := hc j p hj;exact ⟨c, hs, hd.K hb hr, fun i u hu => cell_heap hb (hcell i u hu)⟩⟩
theorem heap_int (k : IntKind) : Heap (Kd.int k) := ⟨fun _ h => h⟩
end Kd
end Go.Proofs.YteokhhepnoelhaaGreatDoorW.PrintWords
namespace Go.Proofs.YteokhhepnoelhaaGreatDoorW.PrintWords
open Go.RowKit
namespace Foot
variable {P Q : World → Prop} {W W1 : World} {ok ok' : Nat → Prop}
theorem old (h : Foot P W ok) (hb : Below W.heap.size W W1) : Foot P W1 (fun k => ok k ∧ k < W.heap.size) := (h.bound).step (fun k _ hlt => hb.block k hlt)
end Foot
namespace Kd
section
variable {α β : Type} {d : Kd α} {e base n n' cc g N : Nat} {ok ok' okp S : Nat → Prop} {w w0 w1 W W1 : World} {A A' : Option Addr} {u v v1 : Value} {xs : List α} {xs' : List β} {d' : Kd β} {x : α} {c : List Value}
theorem F_elder' (h : F d W ok A n xs) (hbase : ∀ k, v.ownBlock = some k → W.heap.size ≤ k) (hb : Below W.heap.size W W1) : F d W1 (fun k => ok k ∧ some k ≠ v.ownBlock) A n xs :=
 F_mono (Foot.old h hb) (fun k hk => ⟨hk.1, fun he => by have := hbase k he.symm; have := hk.2; omega⟩)
theorem C_F (hd : Heap d) (h : d.C w A n xs) : F d w (fun k => k < w.heap.size) A n xs := fun _ hW => hd.C (fun k hlt => hW k hlt hlt) h
end
end Kd
end Go.Proofs.YteokhhepnoelhaaGreatDoorW.PrintWords
namespace Go.Proofs.YteokhhepnoelhaaGreatDoorW.PrintWords
theorem Reps.one {α : Type} {R : α → List Value → Prop} {ps : List α} {cs : List Value} {p : α} {v : Value} (hp : R p [v]) (h : Reps R 1 ps cs) : Reps R 1 (p :: ps) (v :: cs) := by
 refine ⟨by simp [h.1], fun j q hq => ?_⟩;cases j with
 | zero =>
  simp only [List.getElem?_cons_zero, Option.some.injEq] at hq;subst hq;simpa using hp
 | succ j =>
  simp only [List.getElem?_cons_succ] at hq;have h1 := h.2 j q hq;simpa [Nat.mul_one] using h1
end Go.Proofs.YteokhhepnoelhaaGreatDoorW.PrintWords
namespace Go.Proofs.YteokhhepnoelhaaGreatDoorW.PrintWords
open Go.RowKit
namespace Kd
section
variable {α β : Type} {d : Kd α} {e base base' n m c g N' lo hi : Nat} {ok ok' S : Nat → Prop} {w W w1 : World} {A : Option Addr} {ad : Addr} {u v v1 : Value} {xs : List α}
theorem V_elder' (h : V d e W base ok v xs) (hbase : ∀ k, u.ownBlock = some k → W.heap.size ≤ k) (hb : Below W.heap.size W w1) : V d e w1 base (fun k => ok k ∧ some k ≠ u.ownBlock) v xs := V_map h (fun _ hf => F_elder' hf hbase hb)
end
end Kd
end Go.Proofs.YteokhhepnoelhaaGreatDoorW.PrintWords
namespace Go.Proofs.YteokhhepnoelhaaGreatDoor.PFnParseContext
open Go.RowKit Go.Proofs.YteokhhepnoelhaaGreatDoorW.PrintWords Go.Proofs.YteokhhepnoelhaaGreatDoorW.PrintLast PFnParse
def errW : Option Int → Value
 | none => .nilIface
 | some c => .iface 178 (.int .i64 c)
theorem errW_none : errW none = .nilIface := rfl
theorem errW_some (c : Int) : errW (some c) = .iface 178 (.int .i64 c) := rfl
theorem info3 : (Tryz.prog.info? 3).map (fun i => (i.zero, i.size, i.bytes)) = some (some (.int .i64 0), 1, 8) := by kernel_rfl
theorem info5 : (Tryz.prog.info? 5).map (fun i => (i.zero, i.size, i.bytes)) = some (some (.int .u8 0), 1, 1) := by kernel_rfl
theorem info36 : (Tryz.prog.info? 36).map (fun i => (i.zero, i.size, i.bytes)) = some (some (.int .u64 0), 1, 8) := by kernel_rfl
theorem info105 : (Tryz.prog.info? 105).map (fun i => (i.zero, i.size, i.bytes)) = some (some (.int .u64 0), 1, 8) := by kernel_rfl
def spec_byDigit.l0 : Nat → List Int → Int → List Int → Int → Int → Option (List Int × Int)
 | 0, _, _, _, _, _ => none
 | k + 1, x0, x1, x6, x7, x8 => if x8 ≥ 0 then (if 0 ≤ x8 then (if x8 < (x0.length : Int) then (if x1 = 0 then (none) else (if x8 < (x6.length : Int) then (spec_byDigit.l0 k x0 x1 (x6.set (x8 : Int).toNat (wrap64 (Int.tdiv (wrap64 ((wrap64 (x7 * 65536)) + (rd x0 x8))) x1))) (Int.tmod (wrap64 ((wrap64 (x7 * 65536)) + (rd x0 x8))) x1) (wrap64 (x8 - 1))) else (none))) else (none)) else (none)) else ((spec_trim.f k x6).bind fun t376 => (some (t376, x7)))
def spec_byDigit.f (k : Nat) (l0 : List Int) (a1 : Int) : Option (List Int × Int) := if 0 ≤ (l0.length : Int) then (if ((l0.length : Int) : Int).toNat ≤ 35184372088832 then (spec_byDigit.l0 k l0 a1 (List.replicate ((l0.length : Int) : Int).toNat 0) 0 (wrap64 ((l0.length : Int) - 1))) else (none)) else (none)
set_option maxHeartbeats 8000000 in
set_option maxRecDepth 100000 in
theorem spec_byDigit.calls (k : Nat) (A0 : Option Addr) (c0 : Nat) (l0 : List Int) (a1 : Int) (r1 : List Int) (r2 : Int) (w : World) (hr0 : Kd.C (Kd.int .i64) w A0 l0.length l0) (hc0 : l0.length ≤ c0) (h : spec_byDigit.f k l0 a1 = some (r1, r2)) :
 Calls Tryz.prog 66 #[.slice A0 l0.length c0, .int .i64 a1] w fun e w' => ∃ v0_ : Value, e = .returned (.tuple #[v0_, .int .i64 r2]) ∧ Kd.V (Kd.int .i64) 3 w' w.heap.size (fun k_ => (w.heap.size ≤ k_)) v0_ r1 ∧ Below w.heap.size w w' := by
 have HR0 := Aside0.mk hr0;have HC0 := Aside0.mk hc0;clear hr0 hc0;have HB := Aside0.mk (Below.refl w.heap.size w);have H : (if 0 ≤ (l0.length : Int) then (if ((l0.length : Int) : Int).toNat ≤ 35184372088832 then (spec_byDigit.l0 k l0 a1 (List.replicate ((l0.length : Int) : Int).toNat 0) 0 (wrap64 ((l0.length : Int) - 1))) else (none)) else (none)) = some (r1, r2) := h;clear h;by_cases c3 : 0 ≤ (l0.length : Int)
 · rw [if_pos c3] at H;have c3b0 := eq_true c3;have c3b1 : decide (0 ≤ (l0.length : Int)) = true := decide_eq_true c3;clear c3;by_cases c4 : ((l0.length : Int) : Int).toNat ≤ 35184372088832
   · rw [if_pos c4] at H;have c4b0 := eq_true c4;have c4b1 : decide (((l0.length : Int) : Int).toNat ≤ 35184372088832) = true := decide_eq_true c4;clear c4;obtain ⟨y371, hy371⟩ : ∃ y_ : List Int, y_ = (List.replicate ((l0.length : Int) : Int).toNat 0) := ⟨_, rfl⟩
     replace H : (spec_byDigit.l0 k l0 a1 y371 0 (wrap64 ((l0.length : Int) - 1))) = some (r1, r2) := by first | (rw [hy371]; exact H) | (have H2_ := (Option.bind_some _ _).symm.trans H; rw [hy371]; exact H2_) | exact H
     have Ny371 := Aside0.mk hy371;clear hy371;have H' := Aside0.mk H;clear H;go_enter Tryz.func66, Tryz.ntmps66;go_wp2_with (first | ((with_reducible refine gate_dst (N := 11) rfl ?_); refine Kd.R_make (Kd.int .i64) _ 3 rfl (N := 11) rfl 23 _ _ rfl (l0.length : Int) rfl rfl Tryz.underlying23 (.int .i64 0) 8 info3 rfl (by decide) (by omega) 0 (ok := fun _ => True) (okp := fun _ => True) rfl (fun _ hk => hk) trivial (of_decide_eq_true asq) (Nat.le_trans (Nat.mul_le_mul_right _ (of_decide_eq_true asq : (l0.length : Int).toNat ≤ 35184372088832)) (by omega)) (Below.refl _ _) (Nat.le_refl _) ?_; intro v372 w5 ho6 hb hg_ hnew_; clear hg_ hnew_; (first | rw [← Ny371.out] at ho6 | (simp only [Int.reduceToNat] at ho6; rw [← Ny371.out] at ho6)); have n0_ := Aside0.mk (Kd.R_lower (Kd.R_newM (M := fun k_ => (w.heap.size ≤ k_)) ho6 (below_size HBq) (fun k_ h_ => h_)) (below_size HBq)); have n1_ := Aside0.mk (below_step HBq hb); clear HB; have HO373 := n0_; have HB := n1_; clear n0_ n1_; clear hb ho6));go_loopg [7, 8] k (fun kq v7 v8 w' => ∃ (x6_1 : List Int) (x7_1 : Int) (x8_1 : Int), v7 = .int .i64 x7_1 ∧ v8 = .int .i64 x8_1 ∧ Aside0 (spec_byDigit.l0 kq l0 a1 x6_1 x7_1 x8_1 = some (r1, r2)) ∧ Aside0 (kq ≤ k) ∧ Aside0 (Kd.R (Kd.int .i64) 3 w' w.heap.size (fun k_ => (w.heap.size ≤ k_)) v372 x6_1) ∧ Aside0 (Below w.heap.size w w'));case atStart => exact ⟨(y371), (0), (wrap64 ((l0.length : Int) - 1)), rfq, rfq, H', ⟨Nat.le_refl _⟩, ⟨by (with_reducible repeat (first | apply Kd.R_alloc | apply Kd.R_drewN | apply Kd.R_drew)); exact Kd.R_mono HO373.out (fun _ hk => hk.1)⟩, ⟨HBq⟩⟩
     case round =>
      clear H';try clear p2
      try clear c3
      try clear c3b0
      try clear c3b1
      try clear c4
      try clear c4b0
      try clear c4b1
      try clear c6
      try clear p6
      obtain ⟨x6_1, x7_1, x8_1, rfl, rfl, HA, HK1, HO_6, HB⟩ := hrel;cases gk with
      | zero => exact absurd HA.out (by simp [spec_byDigit.l0])
      | succ k1 =>
       have H := HA.out;clear HA;simp only [spec_byDigit.l0] at H;by_cases c7 : x8_1 ≥ 0
       · rw [if_pos c7] at H;have c7b0 : decide (0 ≤ x8_1) = true := decide_eq_true c7;clear c7;by_cases c8 : 0 ≤ x8_1
         · rw [if_pos c8] at H;have c8b0 : decide (0 ≤ x8_1) = true := decide_eq_true c8;clear c8;by_cases c9 : x8_1 < (l0.length : Int)
           · rw [if_pos c9] at H;have c9b0 : decide (x8_1 < (l0.length : Int)) = true := decide_eq_true c9;clear c9;by_cases c10 : a1 = 0
             · rw [if_pos c10] at H;exact absurd H (by simp)
             · rw [if_neg c10] at H;have c10b0 : (a1 == 0) = false := beq_eq_false_iff_ne.mpr c10;have c10b1 : (a1 != 0) = true := bne_iff_ne.mpr c10;by_cases c11 : x8_1 < (x6_1.length : Int)
               · rw [if_pos c11] at H;have c11b0 : decide (x8_1 < (x6_1.length : Int)) = true := decide_eq_true c11;clear c11;obtain ⟨y375, hy375⟩ : ∃ y_ : List Int, y_ = (x6_1.set (x8_1 : Int).toNat (wrap64 (Int.tdiv (wrap64 ((wrap64 (x7_1 * 65536)) + (rd l0 x8_1))) a1))) := ⟨_, rfl⟩
                 replace H : (spec_byDigit.l0 k1 l0 a1 y375 (Int.tmod (wrap64 ((wrap64 (x7_1 * 65536)) + (rd l0 x8_1))) a1) (wrap64 (x8_1 - 1))) = some (r1, r2) := by first | (rw [hy375]; exact H) | (have H2_ := (Option.bind_some _ _).symm.trans H; rw [hy375]; exact H2_) | exact H
                 have Ny375 := Aside0.mk hy375;clear hy375;have H' := Aside0.mk H;clear H;have p374 : 0 ≤ (x8_1 : Int) := of_decide_eq_true asq;have q374 : x8_1 < (l0.length : Int) := of_decide_eq_true asq;obtain ⟨ad374, e374, hx374_0⟩ := Kd.at_int HR0.out x8_1 p374 q374;cases e374;replace hx374_0 := (HB.out.cell (World.block_lt_of_cell? w _ hx374_0)).trans hx374_0;replace p374 := eq_true p374;replace q374 := eq_true q374;have p12 : 0 ≤ (x8_1 : Int) := of_decide_eq_true asq;have q12 : (x8_1 : Int) < ((x6_1.length : Int) : Int) := of_decide_eq_true asq;obtain ⟨go12, co12, eo12, gb12, gl12, cl12, HG12⟩ := Kd.R_form HO_6.out (by omega);(first | cases eo12 | (injection eo12 with ea_ en_ ec_; (first | subst ea_ | (injection ea_ with ea_; subst ea_)); subst ec_; clear en_));have GB12 := Aside0.mk gb12;have GG12 := Aside0.mk HG12;clear gb12 gl12 HG12;obtain ⟨hx12_0, hf12_0⟩ := Kd.R_celln 0 HO_6.out (x8_1 : Int) p12 q12;replace p12 := eq_true p12;replace q12 := eq_true q12;have HP13 := Kd.R_putg HO_6.out (x8_1 : Int) (wrap64 (Int.tdiv (wrap64 ((wrap64 (x7_1 * 65536)) + (rd l0 x8_1))) a1));go_wp2_with (first | ((with_reducible refine gate_store (t := 3) (p := 31) rfl ?_); refine store_event (t := 3) (p := 31) (v := ?vo_w14) (w1 := (wr.setCell ⟨go12, (x8_1 : Int).toNat, none⟩ (.int .i64 (wrap64 (Int.tdiv (wrap64 ((wrap64 (x7_1 * 65536)) + (rd l0 x8_1))) a1))))) ?hg ?ho ?hn ?hr ?_; (case ho => rfl); (case hg => rfl); (case hn => rfl); (case hr => first | (go_simp; done) | (go_simp; rfl)); intro w14 hw; have hg : wr.grownBy w14 (some go12) := (by rw [hw]; exact HP13.2); have hp_ : Kd.R (Kd.int .i64) 3 w14 w.heap.size (fun k_ => (w.heap.size ≤ k_)) (.slice (some ⟨go12, 0, none⟩) x6_1.length co12) y375 := (by rw [hw, Ny375.out]; exact HP13.1); clear HP13; have n0_ := Aside0.mk (hp_); have n1_ := Aside0.mk ((by rw [hw]; exact below_set (HB.out) GB12.out : Below w.heap.size w w14)); clear HO_6; clear HB; have HO_6 := n0_; have HB := n1_; clear n0_ n1_; clear hg hw hp_));go_roundg k1;case measure => have := HK1.out; omega
                 case rel => exact ⟨(y375), (Int.tmod (wrap64 ((wrap64 (x7_1 * 65536)) + (rd l0 x8_1))) a1), (wrap64 (x8_1 - 1)), rfq, rfq, H', ⟨by have := HK1.out; omega⟩, ⟨RAq HO_6.out⟩, ⟨HBq⟩⟩
               · rw [if_neg c11] at H;exact absurd H (by simp)
           · rw [if_neg c9] at H;exact absurd H (by simp)
         · rw [if_neg c8] at H;exact absurd H (by simp)
       · rw [if_neg c7] at H;have c7b0 : decide (0 ≤ x8_1) = false := decide_eq_false c7;clear c7;replace H := Option.bind_eq_some_iff.mp H;obtain ⟨t376, A150, H⟩ := H;replace H : (some (t376, x7_1)) = some (r1, r2) := H;have A15 := Aside0.mk A150;clear A150;simp only [Option.some.injEq, Prod.mk.injEq] at H;obtain ⟨rfl, rfl⟩ := H;obtain ⟨Ao16, co16, eo16⟩ := Kd.R_slice HO_6.out;subst eo16;go_wp2_with (first | ((with_reducible refine gate_callee (f := 36) rfl ?_); refine goesL_ (some 36) rfl rfl Tryz.func36 (by kernel_rfl) rfl #[.slice Ao16 x6_1.length co16] rfl (by (try simp only [List.map_toArray, List.map_cons, List.map_nil]); first | done | rfl | (simp only [List.length_drop, List.length_take]; rfl)) ?_; (with_reducible refine (spec_trim.calls k1 (fun k_ => some k_ = (.slice Ao16 x6_1.length co16 : Value).ownBlock) _ _ x6_1 t376 _ ?side1 A15.out).mono ?_); (case side1 => exact Kd.R_V (Kd.R_tight rfl (HO_6.out))); rintro e w17 ⟨v377, rfl, ho0, hb⟩; refine ⟨_, rfl, ?_⟩; have n0_ := Aside0.mk (Kd.R_below (RAq HO_6.out) hb); have n1_ := Aside0.mk (Kd.V_lower (Kd.V_mono (ok' := fun k_ => (w.heap.size ≤ k_)) ho0 (fun k_ hk_ => Or.elim hk_ (fun hs_ => ((HO_6.out).1 k_ hs_.symm)) (fun hn_ => (Nat.le_trans (below_size HBq) hn_)))) (below_size HBq)); have n2_ := Aside0.mk (below_step HBq hb); clear HO_6; clear HB; have HO_6 := n0_; have HO378 := n1_; have HB := n2_; clear n0_ n1_ n2_; (try clear hb); (try clear hb2); (try clear hk); (try clear hi); (try clear ho0)));go_ret2;exact ⟨_, by first | rfl | (simp [errW_none, errW_some] <;> rfl) | (simp [*, errW_none, errW_some] <;> rfl), by (with_reducible repeat (first | apply Kd.V_alloc | apply Kd.V_drewN | apply Kd.V_drew)); exact HO378.out, HBq⟩
   · rw [if_neg c4] at H;exact absurd H (by simp)
 · rw [if_neg c3] at H;exact absurd H (by simp)
def spec_Digits.l0 : Nat → List Int → ByteArray → Option (ByteArray)
 | 0, _, _ => none
 | k + 1, x0, x3 => if (x0.length : Int) > 0 then ((spec_byDigit.f k x0 10).bind fun bt379 => ((some (([(wrap64 (48 + bt379.2)) % 256] : List Int) : List Int)).bind fun y383 => (if (strOfNums y383).size + x3.size ≤ 9223372036854775807 then (spec_Digits.l0 k bt379.1 ((strOfNums y383) ++ x3)) else (none)))) else (some x3)
def spec_Digits.f (k : Nat) (l0 : List Int) : Option (ByteArray) := if (l0.length : Int) = 0 then (some (⟨#[48]⟩ : ByteArray)) else (spec_Digits.l0 k l0 (⟨#[]⟩ : ByteArray))
set_option maxHeartbeats 8000000 in
set_option maxRecDepth 100000 in
theorem spec_Digits.calls (k : Nat) (P0_ : Nat → Prop) (A0 : Option Addr) (c0 : Nat) (l0 : List Int) (r : ByteArray) (w : World) (hs0 : Kd.V (Kd.int .i64) 3 w w.heap.size (fun k_ => P0_ k_) (.slice A0 l0.length c0) l0) (h : spec_Digits.f k l0 = some r) :
 Calls Tryz.prog 63 #[.slice A0 l0.length c0] w fun e w' => e = .returned (.string r) ∧ Below w.heap.size w w' := by
 have HO0 := Aside0.mk (show Kd.V (Kd.int .i64) 3 w w.heap.size (fun k_ => (P0_ k_ ∨ w.heap.size ≤ k_)) (.slice A0 l0.length c0) l0 from Kd.V_mono hs0 (fun k_ hk => .inl hk));have HB := Aside0.mk (Below.refl w.heap.size w);have H : (if (l0.length : Int) = 0 then (some (⟨#[48]⟩ : ByteArray)) else (spec_Digits.l0 k l0 (⟨#[]⟩ : ByteArray))) = some r := h;clear h;by_cases c2 : (l0.length : Int) = 0
 · rw [if_pos c2] at H;have c2b0 : ((l0.length : Int) == 0) = true := beq_iff_eq.mpr c2;have c2b1 : ((l0.length : Int) != 0) = false := bne_eq_false_iff_eq.mpr c2;clear c2;obtain rfl := Option.some.inj H;go_enter Tryz.func63, Tryz.ntmps63;go_wp2
   go_ret;exact ⟨by first | rfl | (simp [errW_none, errW_some] <;> rfl) | (simp [*, errW_none, errW_some] <;> rfl), HBq⟩
 · rw [if_neg c2] at H;have c2b0 : ((l0.length : Int) == 0) = false := beq_eq_false_iff_ne.mpr c2;have c2b1 : ((l0.length : Int) != 0) = true := bne_iff_ne.mpr c2;have c2b2 : ¬ (l0 = []) := fun h_ => c2 (by rw [h_]; rfl)
   have H' := Aside0.mk H;clear H;go_enter Tryz.func63, Tryz.ntmps63;go_wp2
   go_loopg [0, 3] k (fun kq v0 v3 w' => ∃ (x0_1 : List Int) (x3_1 : ByteArray), v3 = .string x3_1 ∧ Aside0 (spec_Digits.l0 kq x0_1 x3_1 = some r) ∧ Aside0 (kq ≤ k) ∧ Aside0 (Kd.V (Kd.int .i64) 3 w' w.heap.size (fun k_ => (P0_ k_ ∨ w.heap.size ≤ k_)) v0 x0_1) ∧ Aside0 (Below w.heap.size w w'));case atStart => exact ⟨(l0), ((⟨#[]⟩ : ByteArray)), rfq, H', ⟨Nat.le_refl _⟩, ⟨VAq HO0.out⟩, ⟨HBq⟩⟩
   case round =>
    clear H';try clear c2
    try clear c2b0
    try clear c2b1
    try clear c2b2
    try clear p2
    obtain ⟨x0_1, x3_1, rfl, HA, HK1, HO_0, HB⟩ := hrel;cases gk with
    | zero => exact absurd HA.out (by simp [spec_Digits.l0])
    | succ k1 =>
     have H := HA.out;clear HA;simp only [spec_Digits.l0] at H;by_cases c3 : (x0_1.length : Int) > 0
     · rw [if_pos c3] at H;have c3b0 : decide (0 < (x0_1.length : Int)) = true := decide_eq_true c3;have c3b1 : decide (0 < x0_1.length) = true := decide_eq_true (by omega);clear c3;replace H := Option.bind_eq_some_iff.mp H;obtain ⟨⟨t379, t382⟩, A40, H⟩ := H;replace H : ((some (([(wrap64 (48 + t382)) % 256] : List Int) : List Int)).bind fun y383 => (if (strOfNums y383).size + x3_1.size ≤ 9223372036854775807 then (spec_Digits.l0 k1 t379 ((strOfNums y383) ++ x3_1)) else (none))) = some r := H;have A4 := Aside0.mk A40;clear A40;obtain ⟨y383, hy383⟩ : ∃ y_ : List Int, y_ = (([(wrap64 (48 + t382)) % 256] : List Int)) := ⟨_, rfl⟩
       replace H : (if (strOfNums y383).size + x3_1.size ≤ 9223372036854775807 then (spec_Digits.l0 k1 t379 ((strOfNums y383) ++ x3_1)) else (none)) = some r := by first | (rw [hy383]; exact H) | (have H2_ := (Option.bind_some _ _).symm.trans H; rw [hy383]; exact H2_) | exact H
       have Ny383 := Aside0.mk hy383;clear hy383;by_cases c5 : (strOfNums y383).size + x3_1.size ≤ 9223372036854775807
       · rw [if_pos c5] at H;have c5b0 := eq_true c5;have c5b1 : decide ((strOfNums y383).size + x3_1.size ≤ 9223372036854775807) = true := decide_eq_true c5;try have c5b2 : (9223372036854775807 < (strOfNums y383).size + x3_1.size) = False := eq_false (Nat.not_lt.2 c5)
         have H' := Aside0.mk H;clear H;obtain ⟨Ao6, co6, eo6⟩ := Kd.V_slice HO_0.out;subst eo6;go_wp2_with (first | ((with_reducible refine gate_callee (f := 66) rfl ?_); refine goesL_ (some 14) rfl rfl Tryz.func66 (by kernel_rfl) rfl #[.slice Ao6 x0_1.length co6, .int .i64 10] rfl (by (try simp only [List.map_toArray, List.map_cons, List.map_nil]); first | done | rfl | (simp only [List.length_drop, List.length_take]; rfl)) ?_; (with_reducible refine (spec_byDigit.calls k1 _ _ x0_1 10 t379 t382 _ ?side1 ?side2 A4.out).mono ?_); (case side1 => repeat (first | exact (Kd.V_reads' HO_0.out).2.2 | (with_reducible refine Kd.C_alloc ?_ _) | (with_reducible refine Kd.C_drewN ?_ _) | (with_reducible refine Kd.C_drew ?_))); (case side2 => exact (Kd.V_reads' HO_0.out).2.1); rintro e w7 ⟨v380, rfl, ho0, hb⟩; refine ⟨_, rfl, ?_⟩; have n0_ := Aside0.mk (Kd.V_below (VAq HO_0.out) hb); have n1_ := Aside0.mk (Kd.V_lower (Kd.V_mono (ok' := fun k_ => (P0_ k_ ∨ w.heap.size ≤ k_)) ho0 (fun k_ hk_ => (.inr (Nat.le_trans (below_size HBq) hk_)))) (below_size HBq)); have n2_ := Aside0.mk (below_step HBq hb); clear HO_0; clear HB; have HO_0 := n0_; have HO381 := n1_; have HB := n2_; clear n0_ n1_ n2_; (try clear hb); (try clear hb2); (try clear hk); (try clear hi); (try clear ho0)) | ((with_reducible refine gate_dst (N := 20) rfl ?_); refine Kd.R_lit (Kd.int .u8) _ 5 ?hg (N := 20) ?hd (xs := ([(wrap64 (48 + t382)) % 256] : List Int)) (inner := [.int .u8 ((wrap64 (48 + t382)) % 256)]) (ok := fun _ => True) (okp := fun _ => True) ?hr ?hp (fun _ hk => hk) trivial (Below.refl _ _) (Nat.le_refl _) (by simp) ?_; (case hd => rfl); (case hg => rfl); (case hr => first | (go_simp; done) | (go_simp; rfl)); (case hp => exact (Reps.one (show Kd.M (Kd.int .u8) _ _ _ ((wrap64 (48 + t382)) % 256) [.int .u8 ((wrap64 (48 + t382)) % 256)] from rfl) (Reps.none _ _))); intro v384 w8 ho9 hb hg_ hnew_; clear hg_ hnew_; (first | rw [← Ny383.out] at ho9 | (simp only [Int.reduceToNat] at ho9; rw [← Ny383.out] at ho9)); have n0_ := Aside0.mk (Kd.V_elder' (VAq HO_0.out) (Kd.R_base ho9) hb); have n1_ := Aside0.mk (Kd.V_elder' (VAq HO381.out) (Kd.R_base ho9) hb); have n2_ := Aside0.mk (Kd.R_lower (Kd.R_newM (M := fun k_ => (w.heap.size ≤ k_)) ho9 (below_size HBq) (fun k_ h_ => h_)) (below_size HBq)); have n3_ := Aside0.mk (below_step HBq hb); clear HO_0; clear HO381; clear HB; have HO_0 := n0_; have HO381 := n1_; have HO385 := n2_; have HB := n3_; clear n0_ n1_ n2_ n3_; clear hb ho9; have hcv10 := own_string (P := Tryz.prog) Tryz.underlying100 Tryz.underlying5 Tryz.underlying9 (Kd.own_of_R HO385.out)));go_roundg k1;case measure => have := HK1.out; omega
         case rel => exact ⟨(t379), ((strOfNums y383) ++ x3_1), rfq, H', ⟨by have := HK1.out; omega⟩, ⟨by (with_reducible repeat (first | apply Kd.V_alloc | apply Kd.V_drewN | apply Kd.V_drew)); exact Kd.V_mono HO381.out (fun _ hk => hk.1)⟩, ⟨HBq⟩⟩
       · rw [if_neg c5] at H;exact absurd H (by simp)
     · rw [if_neg c3] at H;have c3b0 : decide (0 < (x0_1.length : Int)) = false := decide_eq_false c3;have c3b1 : decide (0 < x0_1.length) = false := decide_eq_false (by omega);clear c3;obtain rfl := Option.some.inj H;obtain ⟨Ao11, co11, eo11⟩ := Kd.V_slice HO_0.out;subst eo11;go_wp2
       go_ret;exact ⟨by first | rfl | (simp [errW_none, errW_some] <;> rfl) | (simp [*, errW_none, errW_some] <;> rfl), HBq⟩
def spec_Figures.f (k : Nat) (l0 : List Int) : Option (Int) := (spec_Digits.f k l0).bind fun t386 => (some (t386.size : Int))
set_option maxHeartbeats 8000000 in
set_option maxRecDepth 100000 in
theorem spec_Figures.calls (k : Nat) (A0 : Option Addr) (c0 : Nat) (l0 : List Int) (r : Int) (w : World) (hr0 : Kd.C (Kd.int .i64) w A0 l0.length l0) (hc0 : l0.length ≤ c0) (h : spec_Figures.f k l0 = some r) :
 Calls Tryz.prog 44 #[.slice A0 l0.length c0] w fun e w' => e = .returned (.int .i64 r) ∧ Below w.heap.size w w' := by
 have HR0 := Aside0.mk hr0;have HC0 := Aside0.mk hc0;clear hr0 hc0;have HB := Aside0.mk (Below.refl w.heap.size w);have H : ((spec_Digits.f k l0).bind fun t386 => (some (t386.size : Int))) = some r := h;clear h;replace H := Option.bind_eq_some_iff.mp H;obtain ⟨t386, A20, H⟩ := H;replace H : (some (t386.size : Int)) = some r := H;have A2 := Aside0.mk A20;clear A20;obtain rfl := Option.some.inj H;go_enter Tryz.func44, Tryz.ntmps44;go_wp2_with (first | ((with_reducible refine gate_callee (f := 63) rfl ?_); refine goesL_ (some 4) rfl rfl Tryz.func63 (by kernel_rfl) rfl #[.slice A0 l0.length c0] rfl (by (try simp only [List.map_toArray, List.map_cons, List.map_nil]); first | done | rfl | (simp only [List.length_drop, List.length_take]; rfl)) ?_; (with_reducible refine (spec_Digits.calls k (fun k_ => k_ < w.heap.size) _ _ l0 t386 _ ?side1 A2.out).mono ?_); (case side1 => exact Kd.V_mk HC0.out (Kd.F_below (Kd.C_F (Kd.heap_int .i64) HR0.out) HBq)); rintro e w3 ⟨rfl, hb⟩; refine ⟨_, rfl, ?_⟩; have n0_ := Aside0.mk (below_step HBq hb); clear HB; have HB := n0_; clear n0_; (try clear hb); (try clear hb2); (try clear hk); (try clear hi)));go_ret;exact ⟨by first | rfl | (simp [errW_none, errW_some] <;> rfl) | (simp [*, errW_none, errW_some] <;> rfl), HBq⟩
def spec_Power.l0 : Nat → Int → Int → List Int → Option (List Int)
 | 0, _, _, _ => none
 | k + 1, x0, x1, x5 => if x1 > 0 then ((spec_Small.f k x0).bind fun t390 => ((spec_Mul.f k x5 t390).bind fun t393 => (spec_Power.l0 k x0 (wrap64 (x1 - 1)) t393))) else (some x5)
def spec_Power.f (k : Nat) (a0 : Int) (a1 : Int) : Option (List Int) := (spec_Small.f k 1).bind fun t387 => (spec_Power.l0 k a0 a1 t387)
set_option maxHeartbeats 8000000 in
set_option maxRecDepth 100000 in
theorem spec_Power.calls (k : Nat) (a0 : Int) (a1 : Int) (r : List Int) (w : World) (h : spec_Power.f k a0 a1 = some r) :
 Calls Tryz.prog 64 #[.int .i64 a0, .int .i64 a1] w fun e w' => ∃ v0_ : Value, e = .returned (v0_) ∧ Kd.V (Kd.int .i64) 3 w' w.heap.size (fun k_ => (w.heap.size ≤ k_)) v0_ r ∧ Below w.heap.size w w' := by
 have HB := Aside0.mk (Below.refl w.heap.size w);have H : ((spec_Small.f k 1).bind fun t387 => (spec_Power.l0 k a0 a1 t387)) = some r := h;clear h;replace H := Option.bind_eq_some_iff.mp H;obtain ⟨t387, A30, H⟩ := H;replace H : (spec_Power.l0 k a0 a1 t387) = some r := H;have A3 := Aside0.mk A30;clear A30;have H' := Aside0.mk H;clear H;go_enter Tryz.func64, Tryz.ntmps64;go_wp2_with (first | ((with_reducible refine gate_callee (f := 21) rfl ?_); refine goesL_ (some 6) rfl rfl Tryz.func21 (by kernel_rfl) rfl #[.int .i64 1] rfl (by (try simp only [List.map_toArray, List.map_cons, List.map_nil]); first | done | rfl | (simp only [List.length_drop, List.length_take]; rfl)) ?_; (with_reducible refine (spec_Small.calls k 1 t387 _ A3.out).mono ?_); rintro e w4 ⟨v388, rfl, ho0, hb⟩; refine ⟨_, rfl, ?_⟩; have n0_ := Aside0.mk (Kd.R_lower (Kd.R_newM (M := fun k_ => (w.heap.size ≤ k_)) ho0 (below_size HBq) (fun k_ h_ => h_)) (below_size HBq)); have n1_ := Aside0.mk (below_step HBq hb); clear HB; have HO389 := n0_; have HB := n1_; clear n0_ n1_; (try clear hb); (try clear hb2); (try clear hk); (try clear hi); (try clear ho0)));go_loopg [1, 5] k (fun kq v1 v5 w' => ∃ (x1_1 : Int) (x5_1 : List Int), v1 = .int .i64 x1_1 ∧ Aside0 (spec_Power.l0 kq a0 x1_1 x5_1 = some r) ∧ Aside0 (kq ≤ k) ∧ Aside0 (Kd.V (Kd.int .i64) 3 w' w.heap.size (fun k_ => (w.heap.size ≤ k_)) v5 x5_1) ∧ Aside0 (Below w.heap.size w w'));case atStart => exact ⟨(a1), (t387), rfq, H', ⟨Nat.le_refl _⟩, ⟨Kd.R_V (by (with_reducible repeat (first | apply Kd.R_alloc | apply Kd.R_drewN | apply Kd.R_drew)); exact Kd.R_mono HO389.out (fun _ hk => hk.1))⟩, ⟨HBq⟩⟩
 case round =>
  clear H';try clear c2
  try clear p2
  obtain ⟨x1_1, x5_1, rfl, HA, HK1, HO_5, HB⟩ := hrel;cases gk with
  | zero => exact absurd HA.out (by simp [spec_Power.l0])
  | succ k1 =>
   have H := HA.out;clear HA;simp only [spec_Power.l0] at H;by_cases c5 : x1_1 > 0
   · rw [if_pos c5] at H;have c5b0 : decide (0 < x1_1) = true := decide_eq_true c5;clear c5;replace H := Option.bind_eq_some_iff.mp H;obtain ⟨t390, A60, H⟩ := H;replace H : ((spec_Mul.f k1 x5_1 t390).bind fun t393 => (spec_Power.l0 k1 a0 (wrap64 (x1_1 - 1)) t393)) = some r := H;have A6 := Aside0.mk A60;clear A60;replace H := Option.bind_eq_some_iff.mp H;obtain ⟨t393, A70, H⟩ := H;replace H : (spec_Power.l0 k1 a0 (wrap64 (x1_1 - 1)) t393) = some r := H;have A7 := Aside0.mk A70;clear A70;have H' := Aside0.mk H;clear H;go_wp2_with (first | ((with_reducible refine gate_callee (f := 21) rfl ?_); refine goesL_ (some 13) rfl rfl Tryz.func21 (by kernel_rfl) rfl #[.int .i64 a0] rfl (by (try simp only [List.map_toArray, List.map_cons, List.map_nil]); first | done | rfl | (simp only [List.length_drop, List.length_take]; rfl)) ?_; (with_reducible refine (spec_Small.calls k1 a0 t390 _ A6.out).mono ?_); rintro e w8 ⟨v391, rfl, ho0, hb⟩; refine ⟨_, rfl, ?_⟩; have n0_ := Aside0.mk (Kd.V_elder' (VAq HO_5.out) (Kd.R_base ho0) hb); have n1_ := Aside0.mk (Kd.R_lower (Kd.R_newM (M := fun k_ => (w.heap.size ≤ k_)) ho0 (below_size HBq) (fun k_ h_ => h_)) (below_size HBq)); have n2_ := Aside0.mk (below_step HBq hb); clear HO_5; clear HB; have HO_5 := n0_; have HO392 := n1_; have HB := n2_; clear n0_ n1_ n2_; (try clear hb); (try clear hb2); (try clear hk); (try clear hi); (try clear ho0); obtain ⟨Ao9, co9, eo9⟩ := Kd.V_slice HO_5.out; subst eo9; obtain ⟨Ao10, co10, eo10⟩ := Kd.R_slice HO392.out; subst eo10) | ((with_reducible refine gate_callee (f := 20) rfl ?_); refine goesL_ (some 14) rfl rfl Tryz.func20 (by kernel_rfl) rfl #[.slice Ao9 x5_1.length co9, .slice Ao10 t390.length co10] rfl (by (try simp only [List.map_toArray, List.map_cons, List.map_nil]); first | done | rfl | (simp only [List.length_drop, List.length_take]; rfl)) ?_; (with_reducible refine (spec_Mul.calls k1 _ _ x5_1 _ _ t390 t393 _ ?side1 ?side2 ?side3 ?side4 A7.out).mono ?_); (case side1 => repeat (first | exact (Kd.V_reads' HO_5.out).2.2 | (with_reducible refine Kd.C_alloc ?_ _) | (with_reducible refine Kd.C_drewN ?_ _) | (with_reducible refine Kd.C_drew ?_))); (case side2 => exact (Kd.V_reads' HO_5.out).2.1); (case side3 => repeat (first | exact (Kd.R_reads' HO392.out).2.2 | (with_reducible refine Kd.C_alloc ?_ _) | (with_reducible refine Kd.C_drewN ?_ _) | (with_reducible refine Kd.C_drew ?_))); (case side4 => exact (Kd.R_reads' HO392.out).2.1); rintro e w11 ⟨v394, rfl, ho0, hb⟩; refine ⟨_, rfl, ?_⟩; have n0_ := Aside0.mk (Kd.V_below (VAq HO_5.out) hb); have n1_ := Aside0.mk (Kd.R_below (RAq HO392.out) hb); have n2_ := Aside0.mk (Kd.V_lower (Kd.V_mono (ok' := fun k_ => (w.heap.size ≤ k_) ∧ some k_ ≠ (.slice Ao10 t390.length co10 : Value).ownBlock) ho0 (fun k_ hk_ => ⟨(Nat.le_trans (below_size HBq) hk_), (Kd.fresh' (Kd.R_lt (RAq HO392.out)) k_ hk_)⟩)) (below_size HBq)); have n3_ := Aside0.mk (below_step HBq hb); clear HO_5; clear HO392; clear HB; have HO_5 := n0_; have HO392 := n1_; have HO395 := n2_; have HB := n3_; clear n0_ n1_ n2_ n3_; (try clear hb); (try clear hb2); (try clear hk); (try clear hi); (try clear ho0)));go_roundg k1;case measure => have := HK1.out; omega
     case rel => exact ⟨(wrap64 (x1_1 - 1)), (t393), rfq, H', ⟨by have := HK1.out; omega⟩, ⟨by (with_reducible repeat (first | apply Kd.V_alloc | apply Kd.V_drewN | apply Kd.V_drew)); exact Kd.V_mono HO395.out (fun _ hk => hk.1)⟩, ⟨HBq⟩⟩
   · rw [if_neg c5] at H;have c5b0 : decide (0 < x1_1) = false := decide_eq_false c5;clear c5;obtain rfl := Option.some.inj H;go_wp2
     go_ret;exact ⟨_, by first | rfl | (simp [errW_none, errW_some] <;> rfl) | (simp [*, errW_none, errW_some] <;> rfl), by (with_reducible repeat (first | apply Kd.V_alloc | apply Kd.V_drewN | apply Kd.V_drew)); exact HO_5.out, HBq⟩
def spec_Len.l0 : Nat → Int → Int → Option (Int)
 | 0, _, _ => none
 | k + 1, x3, x4 => if x4 > 0 then (spec_Len.l0 k (wrap64 (x3 + 1)) (wrap64 (Int.tdiv x4 2))) else (some x3)
def spec_Len.f (k : Nat) (l0 : List Int) : Option (Int) := if (l0.length : Int) = 0 then (some 0) else (if 0 ≤ (wrap64 ((l0.length : Int) - 1)) then (if (wrap64 ((l0.length : Int) - 1)) < (l0.length : Int) then (spec_Len.l0 k (wrap64 (16 * (wrap64 ((l0.length : Int) - 1)))) (rd l0 (wrap64 ((l0.length : Int) - 1)))) else (none)) else (none))
set_option maxHeartbeats 8000000 in
set_option maxRecDepth 100000 in
theorem spec_Len.calls (k : Nat) (A0 : Option Addr) (c0 : Nat) (l0 : List Int) (r : Int) (w : World) (hr0 : Kd.C (Kd.int .i64) w A0 l0.length l0) (hc0 : l0.length ≤ c0) (h : spec_Len.f k l0 = some r) :
 Calls Tryz.prog 106 #[.slice A0 l0.length c0] w fun e w' => e = .returned (.int .i64 r) ∧ Drawn0 w w' := by
 have HR0 := Aside0.mk hr0;have HC0 := Aside0.mk hc0;clear hr0 hc0;have H : (if (l0.length : Int) = 0 then (some 0) else (if 0 ≤ (wrap64 ((l0.length : Int) - 1)) then (if (wrap64 ((l0.length : Int) - 1)) < (l0.length : Int) then (spec_Len.l0 k (wrap64 (16 * (wrap64 ((l0.length : Int) - 1)))) (rd l0 (wrap64 ((l0.length : Int) - 1)))) else (none)) else (none))) = some r := h;clear h;by_cases c2 : (l0.length : Int) = 0
 · rw [if_pos c2] at H;have c2b0 : ((l0.length : Int) == 0) = true := beq_iff_eq.mpr c2;have c2b1 : ((l0.length : Int) != 0) = false := bne_eq_false_iff_eq.mpr c2;clear c2;obtain rfl := Option.some.inj H;go_enter Tryz.func106, Tryz.ntmps106;go_wp2
   go_ret;exact ⟨by first | rfl | (simp; done) | (simp [*]; done), by repeat (first | exact Drawn0.refl _ | apply Drawn0.step)⟩
 · rw [if_neg c2] at H;have c2b0 : ((l0.length : Int) == 0) = false := beq_eq_false_iff_ne.mpr c2;have c2b1 : ((l0.length : Int) != 0) = true := bne_iff_ne.mpr c2;have c2b2 : ¬ (l0 = []) := fun h_ => c2 (by rw [h_]; rfl)
   obtain ⟨ji3, hji3⟩ : ∃ j_ : Int, (wrap64 ((l0.length : Int) - 1)) = j_ := ⟨_, rfl⟩
   replace H : (if 0 ≤ (ji3) then (if (ji3) < (l0.length : Int) then (spec_Len.l0 k (wrap64 (16 * (ji3))) (rd l0 (ji3))) else (none)) else (none)) = some r := by first | (rw [hji3] at H; exact H) | (simp only [hji3] at H ⊢; exact H)
   have hji3w : (IntKind.i64.wrap ((l0.length : Int) - 1)) = ji3 := (i64_w _).trans hji3;by_cases c4 : 0 ≤ (ji3)
   · rw [if_pos c4] at H;have c4b0 : decide (0 ≤ (ji3)) = true := decide_eq_true c4;clear c4;by_cases c5 : (ji3) < (l0.length : Int)
     · rw [if_pos c5] at H;have c5b0 : decide ((ji3) < (l0.length : Int)) = true := decide_eq_true c5;clear c5;have H' := Aside0.mk H;clear H;have p396 : 0 ≤ ((ji3) : Int) := of_decide_eq_true asq;have q396 : (ji3) < (l0.length : Int) := of_decide_eq_true asq;obtain ⟨ad396, e396, hx396_0⟩ := Kd.at_int HR0.out (ji3) p396 q396;cases e396;replace p396 := eq_true p396;replace q396 := eq_true q396;go_enter Tryz.func106, Tryz.ntmps106;go_wp2
       go_loopg [3, 4] k (fun kq v3 v4 w' => ∃ (x3_1 : Int) (x4_1 : Int), v3 = .int .i64 x3_1 ∧ v4 = .int .i64 x4_1 ∧ Aside0 (spec_Len.l0 kq x3_1 x4_1 = some r) ∧ Aside0 (kq ≤ k) ∧ Drawn0 w w');case atStart => exact ⟨(wrap64 (16 * (ji3))), (rd l0 (ji3)), (by first | rfl | (simp; done) | (simp only [← hji3] <;> (first | rfl | simp)) | (simp [*]; done)), (by first | rfl | (simp; done) | (simp only [← hji3] <;> (first | rfl | simp)) | (simp [*]; done)), H', ⟨Nat.le_refl _⟩, by repeat (first | exact Drawn0.refl _ | apply Drawn0.step)⟩
       case round =>
        clear H';try clear c1
        try clear c2
        try clear c2b0
        try clear c2b1
        try clear c2b2
        try clear p2
        try clear p3
        try clear q3
        try clear hx3
        try clear c4
        try clear c4b0
        try clear c5
        try clear c5b0
        try clear hx396_0
        try clear p396
        try clear q396
        obtain ⟨x3_1, x4_1, rfl, rfl, HA, HK1, ⟨m1, rfl⟩⟩ := hrel;cases gk with
        | zero => exact absurd HA.out (by simp [spec_Len.l0])
        | succ k1 =>
         have H := HA.out;clear HA;simp only [spec_Len.l0] at H;by_cases c6 : x4_1 > 0
         · rw [if_pos c6] at H;have c6b0 : decide (0 < x4_1) = true := decide_eq_true c6;clear c6;have H' := Aside0.mk H;clear H;go_wp2
           go_roundg k1;case measure => have := HK1.out; omega
           case rel => exact ⟨(wrap64 (x3_1 + 1)), (wrap64 (Int.tdiv x4_1 2)), rfq, rfq, H', ⟨by have := HK1.out; omega⟩, by repeat (first | exact Drawn0.refl _ | apply Drawn0.step)⟩
         · rw [if_neg c6] at H;have c6b0 : decide (0 < x4_1) = false := decide_eq_false c6;clear c6;obtain rfl := Option.some.inj H;go_wp2
           go_ret;exact ⟨by first | rfl | (simp; done) | (simp only [← hji3] <;> (first | rfl | simp)) | (simp [*]; done), by repeat (first | exact Drawn0.refl _ | apply Drawn0.step)⟩
     · rw [if_neg c5] at H;exact absurd H (by simp)
   · rw [if_neg c4] at H;exact absurd H (by simp)
def spec_Shl.l0 : Nat → Int → List Int → List Int → Int → Int → Option (List Int)
 | 0, _, _, _, _, _ => none
 | k + 1, x1, x5, x19, x20, x21 => if x21 < x20 then (if 0 ≤ x21 then (if x21 < (x19.length : Int) then (if 0 ≤ (Int.tmod x1 16) then (if 0 ≤ (wrap64 ((wrap64 (Int.tdiv x1 16)) + x21)) then (if (wrap64 ((wrap64 (Int.tdiv x1 16)) + x21)) < (x5.length : Int) then (if 0 ≤ (wrap64 ((wrap64 ((wrap64 (Int.tdiv x1 16)) + x21)) + 1)) then (if (wrap64 ((wrap64 ((wrap64 (Int.tdiv x1 16)) + x21)) + 1)) < (x5.length : Int) then (spec_Shl.l0 k x1 ((x5.set ((wrap64 ((wrap64 (Int.tdiv x1 16)) + x21)) : Int).toNat (wrap64 ((rd x5 (wrap64 ((wrap64 (Int.tdiv x1 16)) + x21))) + (Int.tmod (shl .i64 (rd x19 x21) (Int.tmod x1 16)) 65536)))).set ((wrap64 ((wrap64 ((wrap64 (Int.tdiv x1 16)) + x21)) + 1)) : Int).toNat (wrap64 (Int.tdiv (shl .i64 (rd x19 x21) (Int.tmod x1 16)) 65536))) x19 x20 (wrap64 (x21 + 1))) else (none)) else (none)) else (none)) else (none)) else (none)) else (none)) else (none)) else ((spec_trim.f k x5).bind fun t404 => (some t404))
def spec_Shl.f (k : Nat) (l0 : List Int) (a1 : Int) : Option (List Int) := if (l0.length : Int) = 0 then (some l0) else (if 0 ≤ (wrap64 ((wrap64 ((wrap64 (Int.tdiv a1 16)) + (l0.length : Int))) + 1)) then (if (wrap64 ((wrap64 ((wrap64 (Int.tdiv a1 16)) + (l0.length : Int))) + 1) : Int).toNat ≤ 35184372088832 then (spec_Shl.l0 k a1 (List.replicate (wrap64 ((wrap64 ((wrap64 (Int.tdiv a1 16)) + (l0.length : Int))) + 1) : Int).toNat 0) l0 (l0.length : Int) 0) else (none)) else (none))
def spec_Sub.l0 : Nat → List Int → List Int → Int → List Int → Int → Int → Option (List Int)
 | 0, _, _, _, _, _, _ => none
 | k + 1, x1, x5, x6, x10, x11, x12 => if x12 < x11 then (if 0 ≤ x12 then (if x12 < (x10.length : Int) then (if x12 < (x1.length : Int) then (if (wrap64 ((wrap64 ((rd x10 x12) - x6)) - (rd x1 x12))) < 0 then (if x5.length < 17592186044416 then (spec_Sub.l0 k x1 (x5 ++ [wrap64 ((wrap64 ((wrap64 ((rd x10 x12) - x6)) - (rd x1 x12))) + 65536)]) 1 x10 x11 (wrap64 (x12 + 1))) else (none)) else (if x5.length < 17592186044416 then (spec_Sub.l0 k x1 (x5 ++ [wrap64 ((wrap64 ((rd x10 x12) - x6)) - (rd x1 x12))]) 0 x10 x11 (wrap64 (x12 + 1))) else (none))) else (if (wrap64 ((rd x10 x12) - x6)) < 0 then (if x5.length < 17592186044416 then (spec_Sub.l0 k x1 (x5 ++ [wrap64 ((wrap64 ((rd x10 x12) - x6)) + 65536)]) 1 x10 x11 (wrap64 (x12 + 1))) else (none)) else (if x5.length < 17592186044416 then (spec_Sub.l0 k x1 (x5 ++ [wrap64 ((rd x10 x12) - x6)]) 0 x10 x11 (wrap64 (x12 + 1))) else (none)))) else (none)) else (none)) else ((spec_trim.f k x5).bind fun t410 => (some t410))
def spec_Sub.f (k : Nat) (l0 : List Int) (l1 : List Int) : Option (List Int) := spec_Sub.l0 k l1 (([] : List Int)) 0 l0 (l0.length : Int) 0
set_option maxHeartbeats 8000000 in
set_option maxRecDepth 100000 in
theorem spec_Sub.calls (k : Nat) (A0 : Option Addr) (c0 : Nat) (l0 : List Int) (A1 : Option Addr) (c1 : Nat) (l1 : List Int) (r : List Int) (w : World) (hr0 : Kd.C (Kd.int .i64) w A0 l0.length l0) (hc0 : l0.length ≤ c0) (hr1 : Kd.C (Kd.int .i64) w A1 l1.length l1) (hc1 : l1.length ≤ c1) (h : spec_Sub.f k l0 l1 = some r) :
 Calls Tryz.prog 108 #[.slice A0 l0.length c0, .slice A1 l1.length c1] w fun e w' => ∃ v0_ : Value, e = .returned (v0_) ∧ Kd.V (Kd.int .i64) 3 w' w.heap.size (fun k_ => (w.heap.size ≤ k_)) v0_ r ∧ Below w.heap.size w w' := by
 have HR0 := Aside0.mk hr0;have HC0 := Aside0.mk hc0;clear hr0 hc0;have HR1 := Aside0.mk hr1;have HC1 := Aside0.mk hc1;clear hr1 hc1;have HB := Aside0.mk (Below.refl w.heap.size w);have H : (spec_Sub.l0 k l1 (([] : List Int)) 0 l0 (l0.length : Int) 0) = some r := h;clear h;obtain ⟨y407, hy407⟩ : ∃ y_ : List Int, y_ = (([] : List Int)) := ⟨_, rfl⟩
 replace H : (spec_Sub.l0 k l1 y407 0 l0 (l0.length : Int) 0) = some r := by first | (rw [hy407]; exact H) | (have H2_ := (Option.bind_some _ _).symm.trans H; rw [hy407]; exact H2_) | exact H
 have Ny407 := Aside0.mk hy407;clear hy407;have H' := Aside0.mk H;clear H;go_enter Tryz.func108, Tryz.ntmps108;go_wp2_with (first | ((with_reducible refine gate_dst (N := 9) rfl ?_); refine Kd.R_lit (Kd.int .i64) _ 3 ?hg (N := 9) ?hd (xs := ([] : List Int)) (inner := []) (ok := fun _ => True) (okp := fun _ => True) ?hr ?hp (fun _ hk => hk) trivial (Below.refl _ _) (Nat.le_refl _) (by simp) ?_; (case hd => rfl); (case hg => rfl); (case hr => first | (go_simp; done) | (go_simp; rfl)); (case hp => exact (Reps.none _ _)); intro v408 w3 ho4 hb hg_ hnew_; clear hg_ hnew_; (first | rw [← Ny407.out] at ho4 | (simp only [Int.reduceToNat] at ho4; rw [← Ny407.out] at ho4)); have n0_ := Aside0.mk (Kd.R_lower (Kd.R_newM (M := fun k_ => (w.heap.size ≤ k_)) ho4 (below_size HBq) (fun k_ h_ => h_)) (below_size HBq)); have n1_ := Aside0.mk (below_step HBq hb); clear HB; have HO409 := n0_; have HB := n1_; clear n0_ n1_; clear hb ho4));go_loopg [5, 6, 12] k (fun kq v5 v6 v12 w' => ∃ (x5_1 : List Int) (x6_1 : Int) (x12_1 : Int), v6 = .int .i64 x6_1 ∧ v12 = .int .i64 x12_1 ∧ Aside0 (spec_Sub.l0 kq l1 x5_1 x6_1 l0 (l0.length : Int) x12_1 = some r) ∧ Aside0 (kq ≤ k) ∧ Aside0 (Kd.R (Kd.int .i64) 3 w' w.heap.size (fun k_ => (w.heap.size ≤ k_)) v5 x5_1) ∧ Aside0 (Below w.heap.size w w'));case atStart => exact ⟨(y407), (0), (0), rfq, rfq, H', ⟨Nat.le_refl _⟩, ⟨by (with_reducible repeat (first | apply Kd.R_alloc | apply Kd.R_drewN | apply Kd.R_drew)); exact Kd.R_mono HO409.out (fun _ hk => hk.1)⟩, ⟨HBq⟩⟩
 case round =>
  clear H';try clear c1
  try clear p2
  obtain ⟨x5_1, x6_1, x12_1, rfl, rfl, HA, HK1, HO_5, HB⟩ := hrel;cases gk with
  | zero => exact absurd HA.out (by simp [spec_Sub.l0])
  | succ k1 =>
   have H := HA.out;clear HA;simp only [spec_Sub.l0] at H;by_cases c5 : x12_1 < (l0.length : Int)
   · rw [if_pos c5] at H;have c5b0 : decide (x12_1 < (l0.length : Int)) = true := decide_eq_true c5;clear c5;by_cases c6 : 0 ≤ x12_1
     · rw [if_pos c6] at H;have c6b0 : decide (0 ≤ x12_1) = true := decide_eq_true c6;clear c6;by_cases c7 : x12_1 < (l0.length : Int)
       · rw [if_pos c7] at H;have c7b0 : decide (x12_1 < (l0.length : Int)) = true := decide_eq_true c7;clear c7;by_cases c8 : x12_1 < (l1.length : Int)
         · rw [if_pos c8] at H;have c8b0 : decide (x12_1 < (l1.length : Int)) = true := decide_eq_true c8;clear c8;by_cases c9 : (wrap64 ((wrap64 ((rd l0 x12_1) - x6_1)) - (rd l1 x12_1))) < 0
           · rw [if_pos c9] at H;have c9b0 : decide ((wrap64 ((wrap64 ((rd l0 x12_1) - x6_1)) - (rd l1 x12_1))) < 0) = true := decide_eq_true c9;clear c9;by_cases c10 : x5_1.length < 17592186044416
             · rw [if_pos c10] at H;have LMc10 := Aside0.mk c10;clear c10;obtain ⟨y415, hy415⟩ : ∃ y_ : List Int, y_ = (x5_1 ++ [wrap64 ((wrap64 ((wrap64 ((rd l0 x12_1) - x6_1)) - (rd l1 x12_1))) + 65536)]) := ⟨_, rfl⟩
               replace H : (spec_Sub.l0 k1 l1 y415 1 l0 (l0.length : Int) (wrap64 (x12_1 + 1))) = some r := by first | (rw [hy415]; exact H) | (have H2_ := (Option.bind_some _ _).symm.trans H; rw [hy415]; exact H2_) | exact H
               have Ny415 := Aside0.mk hy415;clear hy415;have H' := Aside0.mk H;clear H;have p413 : 0 ≤ (x12_1 : Int) := of_decide_eq_true asq;have q413 : x12_1 < (l0.length : Int) := of_decide_eq_true asq;obtain ⟨ad413, e413, hx413_0⟩ := Kd.at_int HR0.out x12_1 p413 q413;cases e413;replace hx413_0 := (HB.out.cell (World.block_lt_of_cell? w _ hx413_0)).trans hx413_0;replace p413 := eq_true p413;replace q413 := eq_true q413;have p414 : 0 ≤ (x12_1 : Int) := of_decide_eq_true asq;have q414 : x12_1 < (l1.length : Int) := of_decide_eq_true asq;obtain ⟨ad414, e414, hx414_0⟩ := Kd.at_int HR1.out x12_1 p414 q414;cases e414;replace hx414_0 := (HB.out.cell (World.block_lt_of_cell? w _ hx414_0)).trans hx414_0;replace p414 := eq_true p414;replace q414 := eq_true q414;go_wp2_with (first | ((with_reducible refine gate_builtin (b := .append) (xs := #[.tmp 34, .tmp 36]) rfl ?_); at_builtin; refine Kd.R_append (Kd.int .i64) (w0 := w) w.heap.size rfl (.tmp 34) (.tmp 36) 23 3 (.int .i64 0) 8 rfl Tryz.underlying23 info3 rfl (by decide) (by omega) u5 x5_1 (wrap64 ((wrap64 ((wrap64 ((rd l0 x12_1) - x6_1)) - (rd l1 x12_1))) + 65536)) [.int .i64 (wrap64 ((wrap64 ((wrap64 ((rd l0 x12_1) - x6_1)) - (rd l1 x12_1))) + 65536))] (fun k_ => (w.heap.size ≤ k_)) (fun _ => False) rfl rfl ?aP (fun _ hk => hk.elim) ?aF ?aO ?aB ?aS ?aL ?_; (case aP => exact rfl); (case aB => exact HBq); (case aF => exact (fun k_ hk => (Nat.le_trans (below_size HBq) hk))); (case aO => exact (RAq HO_5.out)); (case aS => exact (below_size HBq)); (case aL => have := LMc10.out; omega); intro v416 w11 ho hb hg hat; rw [← Ny415.out] at ho; have n0_ := Aside0.mk (hb); have n1_ := Aside0.mk (ho); clear HB; clear HO_5; have HB := n0_; have HO417 := n1_; clear n0_ n1_; clear ho hb hg hat));go_roundg k1;case measure => have := HK1.out; omega
               case rel => exact ⟨(y415), (1), (wrap64 (x12_1 + 1)), rfq, rfq, H', ⟨by have := HK1.out; omega⟩, ⟨RAq HO417.out⟩, ⟨HBq⟩⟩
             · rw [if_neg c10] at H;exact absurd H (by simp)
           · rw [if_neg c9] at H;have c9b0 : decide ((wrap64 ((wrap64 ((rd l0 x12_1) - x6_1)) - (rd l1 x12_1))) < 0) = false := decide_eq_false c9;clear c9;by_cases c12 : x5_1.length < 17592186044416
             · rw [if_pos c12] at H;have LMc12 := Aside0.mk c12;clear c12;obtain ⟨y418, hy418⟩ : ∃ y_ : List Int, y_ = (x5_1 ++ [wrap64 ((wrap64 ((rd l0 x12_1) - x6_1)) - (rd l1 x12_1))]) := ⟨_, rfl⟩
               replace H : (spec_Sub.l0 k1 l1 y418 0 l0 (l0.length : Int) (wrap64 (x12_1 + 1))) = some r := by first | (rw [hy418]; exact H) | (have H2_ := (Option.bind_some _ _).symm.trans H; rw [hy418]; exact H2_) | exact H
               have Ny418 := Aside0.mk hy418;clear hy418;have H' := Aside0.mk H;clear H;have p413 : 0 ≤ (x12_1 : Int) := of_decide_eq_true asq;have q413 : x12_1 < (l0.length : Int) := of_decide_eq_true asq;obtain ⟨ad413, e413, hx413_0⟩ := Kd.at_int HR0.out x12_1 p413 q413;cases e413;replace hx413_0 := (HB.out.cell (World.block_lt_of_cell? w _ hx413_0)).trans hx413_0;replace p413 := eq_true p413;replace q413 := eq_true q413;have p414 : 0 ≤ (x12_1 : Int) := of_decide_eq_true asq;have q414 : x12_1 < (l1.length : Int) := of_decide_eq_true asq;obtain ⟨ad414, e414, hx414_0⟩ := Kd.at_int HR1.out x12_1 p414 q414;cases e414;replace hx414_0 := (HB.out.cell (World.block_lt_of_cell? w _ hx414_0)).trans hx414_0;replace p414 := eq_true p414;replace q414 := eq_true q414;go_wp2_with (first | ((with_reducible refine gate_builtin (b := .append) (xs := #[.tmp 34, .tmp 36]) rfl ?_); at_builtin; refine Kd.R_append (Kd.int .i64) (w0 := w) w.heap.size rfl (.tmp 34) (.tmp 36) 23 3 (.int .i64 0) 8 rfl Tryz.underlying23 info3 rfl (by decide) (by omega) u5 x5_1 (wrap64 ((wrap64 ((rd l0 x12_1) - x6_1)) - (rd l1 x12_1))) [.int .i64 (wrap64 ((wrap64 ((rd l0 x12_1) - x6_1)) - (rd l1 x12_1)))] (fun k_ => (w.heap.size ≤ k_)) (fun _ => False) rfl rfl ?aP (fun _ hk => hk.elim) ?aF ?aO ?aB ?aS ?aL ?_; (case aP => exact rfl); (case aB => exact HBq); (case aF => exact (fun k_ hk => (Nat.le_trans (below_size HBq) hk))); (case aO => exact (RAq HO_5.out)); (case aS => exact (below_size HBq)); (case aL => have := LMc12.out; omega); intro v419 w13 ho hb hg hat; rw [← Ny418.out] at ho; have n0_ := Aside0.mk (hb); have n1_ := Aside0.mk (ho); clear HB; clear HO_5; have HB := n0_; have HO420 := n1_; clear n0_ n1_; clear ho hb hg hat));go_roundg k1;case measure => have := HK1.out; omega
               case rel => exact ⟨(y418), (0), (wrap64 (x12_1 + 1)), rfq, rfq, H', ⟨by have := HK1.out; omega⟩, ⟨RAq HO420.out⟩, ⟨HBq⟩⟩
             · rw [if_neg c12] at H;exact absurd H (by simp)
         · rw [if_neg c8] at H;have c8b0 : decide (x12_1 < (l1.length : Int)) = false := decide_eq_false c8;clear c8;by_cases c14 : (wrap64 ((rd l0 x12_1) - x6_1)) < 0
           · rw [if_pos c14] at H;have c14b0 : decide ((wrap64 ((rd l0 x12_1) - x6_1)) < 0) = true := decide_eq_true c14;clear c14;by_cases c15 : x5_1.length < 17592186044416
             · rw [if_pos c15] at H;have LMc15 := Aside0.mk c15;clear c15;obtain ⟨y421, hy421⟩ : ∃ y_ : List Int, y_ = (x5_1 ++ [wrap64 ((wrap64 ((rd l0 x12_1) - x6_1)) + 65536)]) := ⟨_, rfl⟩
               replace H : (spec_Sub.l0 k1 l1 y421 1 l0 (l0.length : Int) (wrap64 (x12_1 + 1))) = some r := by first | (rw [hy421]; exact H) | (have H2_ := (Option.bind_some _ _).symm.trans H; rw [hy421]; exact H2_) | exact H
               have Ny421 := Aside0.mk hy421;clear hy421;have H' := Aside0.mk H;clear H;have p413 : 0 ≤ (x12_1 : Int) := of_decide_eq_true asq;have q413 : x12_1 < (l0.length : Int) := of_decide_eq_true asq;obtain ⟨ad413, e413, hx413_0⟩ := Kd.at_int HR0.out x12_1 p413 q413;cases e413;replace hx413_0 := (HB.out.cell (World.block_lt_of_cell? w _ hx413_0)).trans hx413_0;replace p413 := eq_true p413;replace q413 := eq_true q413;go_wp2_with (first | ((with_reducible refine gate_builtin (b := .append) (xs := #[.tmp 34, .tmp 36]) rfl ?_); at_builtin; refine Kd.R_append (Kd.int .i64) (w0 := w) w.heap.size rfl (.tmp 34) (.tmp 36) 23 3 (.int .i64 0) 8 rfl Tryz.underlying23 info3 rfl (by decide) (by omega) u5 x5_1 (wrap64 ((wrap64 ((rd l0 x12_1) - x6_1)) + 65536)) [.int .i64 (wrap64 ((wrap64 ((rd l0 x12_1) - x6_1)) + 65536))] (fun k_ => (w.heap.size ≤ k_)) (fun _ => False) rfl rfl ?aP (fun _ hk => hk.elim) ?aF ?aO ?aB ?aS ?aL ?_; (case aP => exact rfl); (case aB => exact HBq); (case aF => exact (fun k_ hk => (Nat.le_trans (below_size HBq) hk))); (case aO => exact (RAq HO_5.out)); (case aS => exact (below_size HBq)); (case aL => have := LMc15.out; omega); intro v422 w16 ho hb hg hat; rw [← Ny421.out] at ho; have n0_ := Aside0.mk (hb); have n1_ := Aside0.mk (ho); clear HB; clear HO_5; have HB := n0_; have HO423 := n1_; clear n0_ n1_; clear ho hb hg hat));go_roundg k1;case measure => have := HK1.out; omega
               case rel => exact ⟨(y421), (1), (wrap64 (x12_1 + 1)), rfq, rfq, H', ⟨by have := HK1.out; omega⟩, ⟨RAq HO423.out⟩, ⟨HBq⟩⟩
             · rw [if_neg c15] at H;exact absurd H (by simp)
           · rw [if_neg c14] at H;have c14b0 : decide ((wrap64 ((rd l0 x12_1) - x6_1)) < 0) = false := decide_eq_false c14;clear c14;by_cases c17 : x5_1.length < 17592186044416
             · rw [if_pos c17] at H;have LMc17 := Aside0.mk c17;clear c17;obtain ⟨y424, hy424⟩ : ∃ y_ : List Int, y_ = (x5_1 ++ [wrap64 ((rd l0 x12_1) - x6_1)]) := ⟨_, rfl⟩
               replace H : (spec_Sub.l0 k1 l1 y424 0 l0 (l0.length : Int) (wrap64 (x12_1 + 1))) = some r := by first | (rw [hy424]; exact H) | (have H2_ := (Option.bind_some _ _).symm.trans H; rw [hy424]; exact H2_) | exact H
               have Ny424 := Aside0.mk hy424;clear hy424;have H' := Aside0.mk H;clear H;have p413 : 0 ≤ (x12_1 : Int) := of_decide_eq_true asq;have q413 : x12_1 < (l0.length : Int) := of_decide_eq_true asq;obtain ⟨ad413, e413, hx413_0⟩ := Kd.at_int HR0.out x12_1 p413 q413;cases e413;replace hx413_0 := (HB.out.cell (World.block_lt_of_cell? w _ hx413_0)).trans hx413_0;replace p413 := eq_true p413;replace q413 := eq_true q413;go_wp2_with (first | ((with_reducible refine gate_builtin (b := .append) (xs := #[.tmp 34, .tmp 36]) rfl ?_); at_builtin; refine Kd.R_append (Kd.int .i64) (w0 := w) w.heap.size rfl (.tmp 34) (.tmp 36) 23 3 (.int .i64 0) 8 rfl Tryz.underlying23 info3 rfl (by decide) (by omega) u5 x5_1 (wrap64 ((rd l0 x12_1) - x6_1)) [.int .i64 (wrap64 ((rd l0 x12_1) - x6_1))] (fun k_ => (w.heap.size ≤ k_)) (fun _ => False) rfl rfl ?aP (fun _ hk => hk.elim) ?aF ?aO ?aB ?aS ?aL ?_; (case aP => exact rfl); (case aB => exact HBq); (case aF => exact (fun k_ hk => (Nat.le_trans (below_size HBq) hk))); (case aO => exact (RAq HO_5.out)); (case aS => exact (below_size HBq)); (case aL => have := LMc17.out; omega); intro v425 w18 ho hb hg hat; rw [← Ny424.out] at ho; have n0_ := Aside0.mk (hb); have n1_ := Aside0.mk (ho); clear HB; clear HO_5; have HB := n0_; have HO426 := n1_; clear n0_ n1_; clear ho hb hg hat));go_roundg k1;case measure => have := HK1.out; omega
               case rel => exact ⟨(y424), (0), (wrap64 (x12_1 + 1)), rfq, rfq, H', ⟨by have := HK1.out; omega⟩, ⟨RAq HO426.out⟩, ⟨HBq⟩⟩
             · rw [if_neg c17] at H;exact absurd H (by simp)
       · rw [if_neg c7] at H;exact absurd H (by simp)
     · rw [if_neg c6] at H;exact absurd H (by simp)
   · rw [if_neg c5] at H;have c5b0 : decide (x12_1 < (l0.length : Int)) = false := decide_eq_false c5;clear c5;replace H := Option.bind_eq_some_iff.mp H;obtain ⟨t410, A190, H⟩ := H;replace H : (some t410) = some r := H;have A19 := Aside0.mk A190;clear A190;obtain rfl := Option.some.inj H;obtain ⟨Ao20, co20, eo20⟩ := Kd.R_slice HO_5.out;subst eo20;go_wp2_with (first | ((with_reducible refine gate_callee (f := 36) rfl ?_); refine goesL_ (some 40) rfl rfl Tryz.func36 (by kernel_rfl) rfl #[.slice Ao20 x5_1.length co20] rfl (by (try simp only [List.map_toArray, List.map_cons, List.map_nil]); first | done | rfl | (simp only [List.length_drop, List.length_take]; rfl)) ?_; (with_reducible refine (spec_trim.calls k1 (fun k_ => some k_ = (.slice Ao20 x5_1.length co20 : Value).ownBlock) _ _ x5_1 t410 _ ?side1 A19.out).mono ?_); (case side1 => exact Kd.R_V (Kd.R_tight rfl (HO_5.out))); rintro e w21 ⟨v411, rfl, ho0, hb⟩; refine ⟨_, rfl, ?_⟩; have n0_ := Aside0.mk (Kd.R_below (RAq HO_5.out) hb); have n1_ := Aside0.mk (Kd.V_lower (Kd.V_mono (ok' := fun k_ => (w.heap.size ≤ k_)) ho0 (fun k_ hk_ => Or.elim hk_ (fun hs_ => ((HO_5.out).1 k_ hs_.symm)) (fun hn_ => (Nat.le_trans (below_size HBq) hn_)))) (below_size HBq)); have n2_ := Aside0.mk (below_step HBq hb); clear HO_5; clear HB; have HO_5 := n0_; have HO412 := n1_; have HB := n2_; clear n0_ n1_ n2_; (try clear hb); (try clear hb2); (try clear hk); (try clear hi); (try clear ho0)));go_ret;exact ⟨_, by first | rfl | (simp [errW_none, errW_some] <;> rfl) | (simp [*, errW_none, errW_some] <;> rfl), by (with_reducible repeat (first | apply Kd.V_alloc | apply Kd.V_drewN | apply Kd.V_drew)); exact HO412.out, HBq⟩
def spec_away.f (a0 : Bool) (a1 : Int) (a2 : Int) (a3 : Int) : Option (Bool) := if a3 = 1 then (some (decide (a2 ≥ 0))) else (if a3 = 2 then (if a2 > 0 then (some true) else (if a2 = 0 then (some ((Int.tmod a1 2) == 1)) else (some false))) else (if a3 = 3 then (some (!a0)) else (if a3 = 4 then (some a0) else (if a3 = 5 then (some (decide (a2 > 0))) else (if a3 = 6 then (some true) else (if a3 = 7 then (some ((Int.tmod a1 5) == 0)) else (some false)))))))
set_option maxHeartbeats 8000000 in
set_option maxRecDepth 100000 in
theorem spec_away.calls (a0 : Bool) (a1 : Int) (a2 : Int) (a3 : Int) (r : Bool) (w : World) (h : spec_away.f a0 a1 a2 a3 = some r) :
 Calls Tryz.prog 67 #[.bool a0, .int .i64 a1, .int .i64 a2, .int .i64 a3] w fun e w' => e = .returned (.bool r) ∧ Drawn0 w w' := by
 have H : (if a3 = 1 then (some (decide (a2 ≥ 0))) else (if a3 = 2 then (if a2 > 0 then (some true) else (if a2 = 0 then (some ((Int.tmod a1 2) == 1)) else (some false))) else (if a3 = 3 then (some (!a0)) else (if a3 = 4 then (some a0) else (if a3 = 5 then (some (decide (a2 > 0))) else (if a3 = 6 then (some true) else (if a3 = 7 then (some ((Int.tmod a1 5) == 0)) else (some false)))))))) = some r := h;clear h;by_cases c5 : a3 = 1
 · rw [if_pos c5] at H;have c5b0 : (a3 == 1) = true := beq_iff_eq.mpr c5;have c5b1 : (a3 != 1) = false := bne_eq_false_iff_eq.mpr c5;clear c5;obtain rfl := Option.some.inj H;go_enter Tryz.func67, Tryz.ntmps67;go_wp2
   go_ret;exact ⟨by first | rfl | (simp; done) | (simp [*]; done), by repeat (first | exact Drawn0.refl _ | apply Drawn0.step)⟩
 · rw [if_neg c5] at H;have c5b0 : (a3 == 1) = false := beq_eq_false_iff_ne.mpr c5;have c5b1 : (a3 != 1) = true := bne_iff_ne.mpr c5;by_cases c6 : a3 = 2
   · rw [if_pos c6] at H;have c6b0 : (a3 == 2) = true := beq_iff_eq.mpr c6;have c6b1 : (a3 != 2) = false := bne_eq_false_iff_eq.mpr c6;clear c6;by_cases c7 : a2 > 0
     · rw [if_pos c7] at H;have c7b0 : decide (0 < a2) = true := decide_eq_true c7;clear c7;obtain rfl := Option.some.inj H;go_enter Tryz.func67, Tryz.ntmps67;go_wp2
       go_ret;exact ⟨by first | rfl | (simp; done) | (simp [*]; done), by repeat (first | exact Drawn0.refl _ | apply Drawn0.step)⟩
     · rw [if_neg c7] at H;have c7b0 : decide (0 < a2) = false := decide_eq_false c7;clear c7;by_cases c8 : a2 = 0
       · rw [if_pos c8] at H;have c8b0 : (a2 == 0) = true := beq_iff_eq.mpr c8;have c8b1 : (a2 != 0) = false := bne_eq_false_iff_eq.mpr c8;clear c8;obtain rfl := Option.some.inj H;go_enter Tryz.func67, Tryz.ntmps67;go_wp2
         go_ret;exact ⟨by first | rfl | (simp; done) | (simp [*]; done), by repeat (first | exact Drawn0.refl _ | apply Drawn0.step)⟩
       · rw [if_neg c8] at H;have c8b0 : (a2 == 0) = false := beq_eq_false_iff_ne.mpr c8;have c8b1 : (a2 != 0) = true := bne_iff_ne.mpr c8;obtain rfl := Option.some.inj H;go_enter Tryz.func67, Tryz.ntmps67;go_wp2
         go_ret;exact ⟨by first | rfl | (simp; done) | (simp [*]; done), by repeat (first | exact Drawn0.refl _ | apply Drawn0.step)⟩
   · rw [if_neg c6] at H;have c6b0 : (a3 == 2) = false := beq_eq_false_iff_ne.mpr c6;have c6b1 : (a3 != 2) = true := bne_iff_ne.mpr c6;by_cases c9 : a3 = 3
     · rw [if_pos c9] at H;have c9b0 : (a3 == 3) = true := beq_iff_eq.mpr c9;have c9b1 : (a3 != 3) = false := bne_eq_false_iff_eq.mpr c9;clear c9;obtain rfl := Option.some.inj H;go_enter Tryz.func67, Tryz.ntmps67;go_wp2
       go_ret;exact ⟨by first | rfl | (simp; done) | (simp [*]; done), by repeat (first | exact Drawn0.refl _ | apply Drawn0.step)⟩
     · rw [if_neg c9] at H;have c9b0 : (a3 == 3) = false := beq_eq_false_iff_ne.mpr c9;have c9b1 : (a3 != 3) = true := bne_iff_ne.mpr c9;by_cases c10 : a3 = 4
       · rw [if_pos c10] at H;have c10b0 : (a3 == 4) = true := beq_iff_eq.mpr c10;have c10b1 : (a3 != 4) = false := bne_eq_false_iff_eq.mpr c10;clear c10;obtain rfl := Option.some.inj H;go_enter Tryz.func67, Tryz.ntmps67;go_wp2
         go_ret;exact ⟨by first | rfl | (simp; done) | (simp [*]; done), by repeat (first | exact Drawn0.refl _ | apply Drawn0.step)⟩
       · rw [if_neg c10] at H;have c10b0 : (a3 == 4) = false := beq_eq_false_iff_ne.mpr c10;have c10b1 : (a3 != 4) = true := bne_iff_ne.mpr c10;by_cases c11 : a3 = 5
         · rw [if_pos c11] at H;have c11b0 : (a3 == 5) = true := beq_iff_eq.mpr c11;have c11b1 : (a3 != 5) = false := bne_eq_false_iff_eq.mpr c11;clear c11;obtain rfl := Option.some.inj H;go_enter Tryz.func67, Tryz.ntmps67;go_wp2
           go_ret;exact ⟨by first | rfl | (simp; done) | (simp [*]; done), by repeat (first | exact Drawn0.refl _ | apply Drawn0.step)⟩
         · rw [if_neg c11] at H;have c11b0 : (a3 == 5) = false := beq_eq_false_iff_ne.mpr c11;have c11b1 : (a3 != 5) = true := bne_iff_ne.mpr c11;by_cases c12 : a3 = 6
           · rw [if_pos c12] at H;have c12b0 : (a3 == 6) = true := beq_iff_eq.mpr c12;have c12b1 : (a3 != 6) = false := bne_eq_false_iff_eq.mpr c12;clear c12;obtain rfl := Option.some.inj H;go_enter Tryz.func67, Tryz.ntmps67;go_wp2
             go_ret;exact ⟨by first | rfl | (simp; done) | (simp [*]; done), by repeat (first | exact Drawn0.refl _ | apply Drawn0.step)⟩
           · rw [if_neg c12] at H;have c12b0 : (a3 == 6) = false := beq_eq_false_iff_ne.mpr c12;have c12b1 : (a3 != 6) = true := bne_iff_ne.mpr c12;by_cases c13 : a3 = 7
             · rw [if_pos c13] at H;have c13b0 : (a3 == 7) = true := beq_iff_eq.mpr c13;have c13b1 : (a3 != 7) = false := bne_eq_false_iff_eq.mpr c13;clear c13;obtain rfl := Option.some.inj H;go_enter Tryz.func67, Tryz.ntmps67;go_wp2
               go_ret;exact ⟨by first | rfl | (simp; done) | (simp [*]; done), by repeat (first | exact Drawn0.refl _ | apply Drawn0.step)⟩
             · rw [if_neg c13] at H;have c13b0 : (a3 == 7) = false := beq_eq_false_iff_ne.mpr c13;have c13b1 : (a3 != 7) = true := bne_iff_ne.mpr c13;obtain rfl := Option.some.inj H;go_enter Tryz.func67, Tryz.ntmps67;go_wp2
               go_ret;exact ⟨by first | rfl | (simp; done) | (simp [*]; done), by repeat (first | exact Drawn0.refl _ | apply Drawn0.step)⟩
def laws_flags.f (a0 : Bool) (a1 : Bool) : Option (Int) := if a0 = true then (if a1 = true then (some ((0 + 16) + 4)) else (some (0 + 16))) else (if a1 = true then (some (0 + 4)) else (some 0))
set_option maxHeartbeats 8000000 in
set_option maxRecDepth 100000 in
theorem laws_flags.calls (a0 : Bool) (a1 : Bool) (r : Int) (w : World) (h : laws_flags.f a0 a1 = some r) :
 Calls Tryz.prog 32 #[.bool a0, .bool a1] w fun e w' => e = .returned (.int .i64 r) ∧ Drawn0 w w' := by
 have H : (if a0 = true then (if a1 = true then (some ((0 + 16) + 4)) else (some (0 + 16))) else (if a1 = true then (some (0 + 4)) else (some 0))) = some r := h;clear h;by_cases c3 : a0 = true
 · subst c3;have H1 : (if a1 = true then (some ((0 + 16) + 4)) else (some (0 + 16))) = some r := by rw [if_pos rfl] at H; exact H
   clear H;have H := H1;clear H1;by_cases c4 : a1 = true
   · subst c4;have H1 : (some ((0 + 16) + 4)) = some r := by rw [if_pos rfl] at H; exact H
     clear H;have H := H1;clear H1;obtain rfl := Option.some.inj H;go_enter Tryz.func32, Tryz.ntmps32;go_wp2
     go_ret;exact ⟨by first | rfl | (simp; done) | (simp [*]; done), by repeat (first | exact Drawn0.refl _ | apply Drawn0.step)⟩
   · replace c4 := Bool.eq_false_iff.mpr c4;subst c4;have H1 : (some (0 + 16)) = some r := by rw [if_neg (show ¬ (false = true) by decide)] at H; exact H
     clear H;have H := H1;clear H1;obtain rfl := Option.some.inj H;go_enter Tryz.func32, Tryz.ntmps32;go_wp2
     go_ret;exact ⟨by first | rfl | (simp; done) | (simp [*]; done), by repeat (first | exact Drawn0.refl _ | apply Drawn0.step)⟩
 · replace c3 := Bool.eq_false_iff.mpr c3;subst c3;have H1 : (if a1 = true then (some (0 + 4)) else (some 0)) = some r := by rw [if_neg (show ¬ (false = true) by decide)] at H; exact H
   clear H;have H := H1;clear H1;by_cases c5 : a1 = true
   · subst c5;have H1 : (some (0 + 4)) = some r := by rw [if_pos rfl] at H; exact H
     clear H;have H := H1;clear H1;obtain rfl := Option.some.inj H;go_enter Tryz.func32, Tryz.ntmps32;go_wp2
     go_ret;exact ⟨by first | rfl | (simp; done) | (simp [*]; done), by repeat (first | exact Drawn0.refl _ | apply Drawn0.step)⟩
   · replace c5 := Bool.eq_false_iff.mpr c5;subst c5;have H1 : (some 0) = some r := by rw [if_neg (show ¬ (false = true) by decide)] at H; exact H
     clear H;have H := H1;clear H1;obtain rfl := Option.some.inj H;go_enter Tryz.func32, Tryz.ntmps32;go_wp2
     go_ret;exact ⟨by first | rfl | (simp; done) | (simp [*]; done), by repeat (first | exact Drawn0.refl _ | apply Drawn0.step)⟩
def laws_wide.f (a0 : Int) (a1 : Int) : Option (Int × Int × Int × Int) := some (IntKind.u64.wrap (1 + (IntKind.u64.wrap (Int.tmod a0 60))), 100000, (-100000), wrap64 (Int.tmod a1 8))
set_option maxHeartbeats 8000000 in
set_option maxRecDepth 100000 in
theorem laws_wide.calls (a0 : Int) (a1 : Int) (r1 : Int) (r2 : Int) (r3 : Int) (r4 : Int) (w : World) (h : laws_wide.f a0 a1 = some (r1, r2, r3, r4)) :
 Calls Tryz.prog 12 #[.int .u8 a0, .int .u8 a1] w fun e w' => e = .returned (.agg #[.int .u64 r1, .int .i64 r2, .int .i64 r3, .int .i64 r4]) ∧ Below w.heap.size w w' := by
 have hu38 := Tryz.underlying38;have HB := Aside0.mk (Below.refl w.heap.size w);have H : (some (IntKind.u64.wrap (1 + (IntKind.u64.wrap (Int.tmod a0 60))), 100000, (-100000), wrap64 (Int.tmod a1 8))) = some (r1, r2, r3, r4) := h;clear h;simp only [Option.some.injEq, Prod.mk.injEq] at H;obtain ⟨rfl, rfl, rfl, rfl⟩ := H;go_enter Tryz.func12, Tryz.ntmps12;go_wp2_with (first | ((with_reducible refine gate_dst (N := 4) rfl ?_); refine box_event ?hg (N := 4) ?hd (cs := #[.int .u64 0, .int .i64 0, .int .i64 0, .int .i64 0]) (t := 38) ?hr ?_; (case hd => rfl); (case hg => rfl); (case hr => first | (go_simp; done) | (go_simp; rfl)); intro gb164 hg w3 hbox hb; have n0_ := Aside0.mk (below_step HBq hb); have n1_ := Aside0.mk (hbox); have n2_ := Aside0.mk ((by rw [hg]; exact (below_size HBq) : w.heap.size ≤ gb164)); have n3_ := Aside0.mk ((by rw [hg]; exact (below_size HBq) : w.heap.size ≤ gb164)); clear HB; have HB := n0_; have BK164 := n1_; have GW164 := n2_; have GE164 := n3_; clear n0_ n1_ n2_ n3_; clear hb hbox hg; have hcz4_0 : w3.cell? ⟨gb164, 0, none⟩ = some (.int .u64 0) := (blk_cell BK164.out 0).trans rfl; have hcz4_1 : w3.cell? ⟨gb164, 1, none⟩ = some (.int .i64 0) := (blk_cell BK164.out 1).trans rfl; have hcz4_2 : w3.cell? ⟨gb164, 2, none⟩ = some (.int .i64 0) := (blk_cell BK164.out 2).trans rfl; have hcz4_3 : w3.cell? ⟨gb164, 3, none⟩ = some (.int .i64 0) := (blk_cell BK164.out 3).trans rfl; have hfz4_0 := blk_frozen BK164.out 0; have hfz4_1 := blk_frozen BK164.out 1; have hfz4_2 := blk_frozen BK164.out 2; have hfz4_3 := blk_frozen BK164.out 3));refine bodyPost_ret (results_cell_row rfl _ _ gb164 38 #[.int .u64 (IntKind.u64.wrap (1 + (IntKind.u64.wrap (Int.tmod a0 60)))), .int .i64 100000, .int .i64 (-100000), .int .i64 (wrap64 (Int.tmod a1 8))] (0, 0) _ rfl (by (with_reducible repeat (first | refine blk_drewN ?_ _ | refine blk_drew ?_ | refine blk_alloc ?_ _)); refine blk_put (cs := #[.int .u64 (IntKind.u64.wrap (1 + (IntKind.u64.wrap (Int.tmod a0 60)))), .int .i64 100000, .int .i64 (-100000), .int .i64 0]) ?_ 3 _ rfl; (with_reducible repeat (first | refine blk_drewN ?_ _ | refine blk_drew ?_ | refine blk_alloc ?_ _)); refine blk_put (cs := #[.int .u64 (IntKind.u64.wrap (1 + (IntKind.u64.wrap (Int.tmod a0 60)))), .int .i64 100000, .int .i64 0, .int .i64 0]) ?_ 2 _ rfl; (with_reducible repeat (first | refine blk_drewN ?_ _ | refine blk_drew ?_ | refine blk_alloc ?_ _)); refine blk_put (cs := #[.int .u64 (IntKind.u64.wrap (1 + (IntKind.u64.wrap (Int.tmod a0 60)))), .int .i64 0, .int .i64 0, .int .i64 0]) ?_ 1 _ rfl; (with_reducible repeat (first | refine blk_drewN ?_ _ | refine blk_drew ?_ | refine blk_alloc ?_ _)); refine blk_put (cs := #[.int .u64 0, .int .i64 0, .int .i64 0, .int .i64 0]) ?_ 0 _ rfl; (with_reducible repeat (first | refine blk_drewN ?_ _ | refine blk_drew ?_ | refine blk_alloc ?_ _)); exact BK164.out) Tryz.underlying38 rfl (by kernel_rfl)) rfl ?_;exact ⟨by first | rfl | (simp [errW_none, errW_some] <;> rfl) | (simp [*, errW_none, errW_some] <;> rfl), by repeat (first | (with_reducible first | exact HB.out | apply below_alloc | apply pw_below_drewN | apply below_drew1 | refine below_set ?_ GE164.out) | exact HB.out)⟩
end Go.Proofs.YteokhhepnoelhaaGreatDoor.PFnParseContext
namespace Go.Proofs.YteokhhepnoelhaaGreatDoor
open Go.Lib
theorem pow_le_nDigits : ∀ (n u : Nat), u ≤ n → u ≠ 0 → 10 ^ (nDigits u - 1) ≤ u
 | 0, u, h, h0 => absurd (by omega) h0
 | n + 1, u, h, h0 => by
  by_cases hs : u < 10;· rw [nDigits_small hs]; simp; omega
  · rw [nDigits_big hs, Nat.add_sub_cancel];have ih := pow_le_nDigits n (u / 10) (by omega) (by omega);have hp := nDigits_pos (u / 10);obtain ⟨k, hk⟩ : ∃ k, nDigits (u / 10) = k + 1 := ⟨nDigits (u / 10) - 1, by omega⟩
    rw [hk, Nat.add_sub_cancel] at ih;rw [hk, Nat.pow_succ];omega
theorem nDigits_le {u k : Nat} (h0 : u ≠ 0) (h : u < 10 ^ k) : nDigits u ≤ k := by
 have h1 := pow_le_nDigits u u (Nat.le_refl _) h0;refine Nat.le_of_not_lt (fun hh => ?_);have : 10 ^ k ≤ 10 ^ (nDigits u - 1) := Nat.pow_le_pow_right (by omega) (by omega);omega
theorem lead_digit {u : Nat} (h0 : u ≠ 0) : u / 10 ^ (nDigits u - 1) % 10 ≠ 0 := by
 have h1 := pow_le_nDigits u u (Nat.le_refl _) h0;have h2 := lt_pow_nDigits u;have hp := nDigits_pos u;obtain ⟨k, hk⟩ : ∃ k, nDigits u = k + 1 := ⟨nDigits u - 1, by omega⟩
 rw [hk, Nat.add_sub_cancel] at h1 ⊢;rw [hk, Nat.pow_succ] at h2;have hpos : 0 < 10 ^ k := Nat.pow_pos (by omega);have h3 : 1 ≤ u / 10 ^ k := (Nat.le_div_iff_mul_le hpos).2 (by omega);have h4 : u / 10 ^ k < 10 := (Nat.div_lt_iff_lt_mul hpos).2 (by omega);omega
def places (n : Nat) : Nat := blen n * 30103 / 100000 + 1
theorem places_all : (List.range 300).all (fun b => decide (2 ^ b ≤ 10 ^ (b * 30103 / 100000 + 1))) = true := by kernel_rfl
theorem lt_places {n : Nat} (hb : blen n < 300) : n < 10 ^ places n := by
 have h := of_decide_eq_true (List.all_eq_true.1 places_all (blen n) (by simpa using hb));by_cases h0 : n = 0;· subst h0; exact Nat.pow_pos (by omega)
 · have := (blen_bounds h0).2.1;unfold places;omega
def DigsFrom (cs : Array Value) (I i N : Nat) : Prop := ∀ j, i ≤ j → j < I → cs[j]? = some (.int .u8 ((48 + N / 10 ^ (I - 1 - j) % 10 : Nat) : Int))
theorem DigsFrom.start (cs : Array Value) (I N : Nat) : DigsFrom cs I I N := fun j h1 h2 => by omega
theorem DigsFrom.set {cs : Array Value} {I i N : Nat} (h : DigsFrom cs I (i + 1) N) (hi : i < I) (hs : I ≤ cs.size) (d : Nat) (hd : d = 48 + N / 10 ^ (I - 1 - i) % 10) :
 DigsFrom (cs.setIfInBounds i (.int .u8 (d : Int))) I i N := by
 intro j h1 h2;rw [Array.getElem?_setIfInBounds];by_cases e : i = j;· subst e;rw [if_pos rfl, if_pos (by omega), hd]
 · rw [if_neg e];exact h j (by omega) h2
theorem digit_in (N m j : Nat) (hj : j < 19) : N / 10 ^ (19 * m) % 10000000000000000000 / 10 ^ j % 10 = N / 10 ^ (19 * m + j) % 10 := by
 have e : (10000000000000000000 : Nat) = 10 ^ j * 10 ^ (19 - j) := by rw [← Nat.pow_add, show j + (19 - j) = 19 by omega]
 rw [e, Nat.mod_mul_right_div_self, Nat.div_div_eq_div_mul, ← Nat.pow_add];obtain ⟨k, hk⟩ : ∃ k, 19 - j = k + 1 := ⟨18 - j, by omega⟩
 rw [hk, Nat.pow_succ];exact Nat.mod_mul_left_mod _ _ _
theorem quot_step (N m : Nat) : N / 10 ^ (19 * m) / 10000000000000000000 = N / 10 ^ (19 * (m + 1)) := by
 rw [Nat.div_div_eq_div_mul, show (10000000000000000000 : Nat) = 10 ^ 19 by decide, ← Nat.pow_add, show 19 * (m + 1) = 19 * m + 19 by omega]
theorem rest_step (R j : Nat) : R / 10 ^ j / 10 = R / 10 ^ (j + 1) := by
 rw [Nat.div_div_eq_div_mul, Nat.pow_succ]
theorem zero_above {N k p : Nat} (h : N / 10 ^ k = 0) (hp : k ≤ p) : N / 10 ^ p % 10 = 0 := by
 have h1 : N < 10 ^ k := by
  rcases Nat.div_eq_zero_iff.1 h with h | h;· exact absurd h (Nat.ne_of_gt (Nat.pow_pos (by omega)))
  · exact h
 have h2 : 10 ^ k ≤ 10 ^ p := Nat.pow_le_pow_right (by omega) hp;rw [Nat.div_eq_of_lt (by omega)]
theorem decDigits_get (N t : Nat) (ht : t < nDigits N) : ∃ b : UInt8, (decDigits N)[t]? = some b ∧ b.toNat = 48 + N / 10 ^ (nDigits N - 1 - t) % 10 := by
 refine ⟨dg N (nDigits N - 1 - t), ?_, ?_⟩;· rw [decDigits_eq];simp [ht]
 · unfold dg;have : N / 10 ^ (nDigits N - 1 - t) % 10 < 10 := Nat.mod_lt _ (by omega);simp [UInt8.toNat_ofNat'];omega
end Go.Proofs.YteokhhepnoelhaaGreatDoor
namespace Go.Proofs.YteokhhepnoelhaaGreatDoor
open Go.RowKit Go.Proofs.YteokhhepnoelhaaGreatDoorW.PrintWords PFnParse PFnParseContext
theorem zs_replicate (n : Nat) : (List.replicate n 0 : List Int) = zs (List.replicate n 0) := by simp [zs]
theorem tdiv_by (a d : Nat) : Int.tdiv (a : Int) (d : Int) = ((a / d : Nat) : Int) := by
 rw [Int.tdiv_eq_ediv_of_nonneg (by omega)]; exact (Int.natCast_ediv a d).symm
theorem tmod_by (a d : Nat) : Int.tmod (a : Int) (d : Int) = ((a % d : Nat) : Int) := by
 rw [Int.tmod_eq_emod_of_nonneg (by omega)]; exact (Int.natCast_emod a d).symm
def dmL : List Nat → Nat → List Nat × Nat
 | [], _ => ([], 0)
 | x :: xs, d => (((dmL xs d).2 * 65536 + x) / d :: (dmL xs d).1, ((dmL xs d).2 * 65536 + x) % d)
theorem dmL_val (xs : List Nat) (d : Nat) (hd : 0 < d) : bval (dmL xs d).1 * d + (dmL xs d).2 = bval xs ∧ (dmL xs d).2 < d := by
 induction xs with
 | nil => exact ⟨by simp [dmL, bval], hd⟩
 | cons x xs ih =>
  obtain ⟨h1, h2⟩ := ih;refine ⟨?_, Nat.mod_lt _ hd⟩;rw [dmL, bval, bval, ← h1];generalize (dmL xs d).2 = r at *
  generalize bval (dmL xs d).1 = q at *
  have h := Nat.div_add_mod (r * 65536 + x) d;rw [Nat.add_mul, Nat.mul_comm ((r * 65536 + x) / d) d, Nat.mul_assoc 65536 q d];generalize q * d = a at *
  generalize d * ((r * 65536 + x) / d) = b at *
  generalize (r * 65536 + x) % d = c at *
  show b + 65536 * a + c = _;omega
theorem dmL_bd (xs : List Nat) (d : Nat) (hd : 0 < d) (h : Bd xs) : Bd (dmL xs d).1 := by
 induction xs with
 | nil => intro z hz; simp [dmL] at hz
 | cons x xs ih =>
  intro z hz;rw [dmL] at hz;rcases List.mem_cons.1 hz with rfl | hz;· have hx := h x (by simp);have hr := (dmL_val xs d hd).2;rw [Nat.div_lt_iff_lt_mul hd];have : ((dmL xs d).2 + 1) * 65536 ≤ d * 65536 := Nat.mul_le_mul_right _ hr;omega
  · exact ih (fun u hu => h u (by simp [hu])) z hz
theorem byDigit_l0 (xs : List Nat) (d : Nat) (hd : 0 < d) (hd' : d < 65536) (hx : Bd xs) (hl : xs.length ≤ 10000) : ∀ i : Nat, i ≤ xs.length →
 Evt (fun k => spec_byDigit.l0 k (zs xs) (d : Int) (zs (List.replicate i 0 ++ (dmL (xs.drop i) d).1)) (((dmL (xs.drop i) d).2 : Nat) : Int) ((i : Int) - 1)) (zs (normL (dmL xs d).1), (((dmL xs d).2 : Nat) : Int)) := by
 have hlen : ∀ ys : List Nat, (dmL ys d).1.length = ys.length := by
  intro ys;induction ys with
  | nil => rfl
  | cons y ys ih => rw [dmL, List.length_cons, ih, List.length_cons]
 intro i;induction i with
 | zero =>
  intro _;rw [List.drop_zero, List.replicate_zero, List.nil_append];refine Evt.step (h := fun k => (spec_trim.f k (zs (dmL xs d).1)).bind fun t => some (t, (((dmL xs d).2 : Nat) : Int))) (Evt.bind (trim_ev _ (by rw [hlen]; omega)) (Evt.const _)) fun k => ?_
  simp only [spec_byDigit.l0];rw [if_neg (by omega)]
 | succ i ih =>
  intro hi;obtain ⟨x, gx, dx⟩ := drop_get (xs := xs) (i := i) (by omega);have hxb := hx x (List.mem_of_getElem? gx);have hI := ih (by omega);rw [dx, dmL] at hI;have hr := (dmL_val (xs.drop (i + 1)) d hd).2;have hlq := hlen (xs.drop (i + 1));generalize (dmL (xs.drop (i + 1)) d).2 = r at *
  generalize (dmL (xs.drop (i + 1)) d).1 = q at *
  rw [List.length_drop] at hlq;have rx := hid (rd_zs xs i x gx);have hv := hid (show wrap64 (wrap64 ((r : Int) * 65536) + (x : Int)) = ((r * 65536 + x : Nat) : Int) by
   rw [wrap_in ((r : Int) * 65536) (by omega) (by omega), wrap_in _ (by omega) (by omega)]; omega)
  have hq := hid (wrap_nat ((r * 65536 + x) / d) (Nat.le_trans (Nat.div_le_self _ _) (by omega)));have hn := hid (show wrap64 ((i : Int) - 1) = (i : Int) - 1 from wrap_in _ (by omega) (by omega));refine Evt.step hI fun k => ?_
  simp only [spec_byDigit.l0];rw [show (((i + 1 : Nat) : Int)) - 1 = (i : Int) by omega, if_pos (by omega), if_pos (by omega), if_pos (by rw [zs_length]; omega), if_neg (by omega), if_pos (by rw [zs_length]; simp; omega), rx.out, hv.out, tdiv_by, tmod_by, hq.out, hn.out, zs_set];congr 2
  rw [show ((i : Int)).toNat = i by omega, List.replicate_succ', List.append_assoc, List.set_append_right _ _ (by simp)];simp
theorem byDigit_ev (V d : Nat) (hd : 0 < d) (hd' : d < 65536) (hl : (digs V).length ≤ 10000) : Evt (fun k => spec_byDigit.f k (zs (digs V)) (d : Int)) (zs (digs (V / d)), ((V % d : Nat) : Int)) := by
 have h := byDigit_l0 (digs V) d hd hd' (digs_lt V) hl (digs V).length (Nat.le_refl _);have hv := dmL_val (digs V) d hd;rw [bval_digs] at hv;have hu := (Nat.div_mod_unique (a := V) (b := d) (c := (dmL (digs V) d).2) (d := bval (dmL (digs V) d).1) hd).2 ⟨by have h1 := hv.1; rw [Nat.mul_comm] at h1; omega, hv.2⟩;have hq : bval (dmL (digs V) d).1 = V / d := hu.1.symm;have hr : (dmL (digs V) d).2 = V % d := hu.2.symm;rw [normL_digs _ (dmL_bd _ _ hd (digs_lt V)), hq, hr, List.drop_length, dmL, List.append_nil] at h;refine Evt.same h fun k => ?_
 unfold spec_byDigit.f;rw [if_pos (by omega), if_pos (by rw [zs_length]; omega), zs_length, wrap_in _ (by omega) (by omega), show (((digs V).length : Int)).toNat = (digs V).length by omega, zs_replicate];rfl
theorem ten_digs (n : Nat) (hn : n ≤ 100) : (digs (10 ^ n)).length ≤ 10000 := by
 have h : 10 ^ n < 65536 ^ 100 := Nat.lt_of_le_of_lt (Nat.pow_le_pow_right (by omega) hn) (by decide +kernel);have := digs_length_le 100 _ h;omega
theorem Power_l0 (n : Nat) : ∀ m : Nat, m + n ≤ 100 → Evt (fun k => spec_Power.l0 k 10 (n : Int) (zs (digs (10 ^ m)))) (zs (digs (10 ^ (m + n)))) := by
 induction n with
 | zero =>
  intro m hm;refine Evt.of fun k => ?_
  simp only [spec_Power.l0];rw [if_neg (by simp)];rfl
 | succ n ih =>
  intro m hm;have h1 : Evt (fun k => spec_Small.f k ((10 : Nat) : Int)) (zs (digs 10)) := Small_ev 10 (by omega);have h2 := Mul_ev (10 ^ m) 10 (by omega) (by omega) (ten_digs m (by omega));have h3 := ih (m + 1) (by omega);rw [show m + 1 + n = m + (n + 1) by omega] at h3;have hw := hid (show wrap64 (((n + 1 : Nat) : Int) - 1) = (n : Int) by rw [wrap_in _ (by omega) (by omega)]; omega);rw [← Nat.pow_succ] at h2;refine Evt.step (h := fun k => (spec_Small.f k ((10 : Nat) : Int)).bind fun t390 => (spec_Mul.f k (zs (digs (10 ^ m))) t390).bind fun t393 => spec_Power.l0 k 10 (n : Int) t393) (Evt.bind h1 (Evt.bind h2 h3)) fun k => ?_
  simp only [spec_Power.l0];rw [if_pos (by omega), hw.out];rfl
theorem Power_ev (n : Nat) (hn : n ≤ 100) : Evt (fun k => spec_Power.f k 10 (n : Int)) (zs (digs (10 ^ n))) := by
 have h := Power_l0 n 0 (by omega);rw [Nat.zero_add] at h;have h1 : Evt (fun k => spec_Small.f k ((1 : Nat) : Int)) (zs (digs 1)) := Small_ev 1 (by omega);exact Evt.bind h1 h
end Go.Proofs.YteokhhepnoelhaaGreatDoor
namespace Go.Proofs.YteokhhepnoelhaaGreatDoor
open Go.RowKit
theorem run_sub64_here (x y b : Nat) (hb : b ≤ 1) (w : World) :
 (callFunc 269 #[.int .u64 x, .int .u64 y, .int .u64 b]).run Tryz.prog w =
  .ok (.value (.tuple #[.int .u64 (((x + 18446744073709551616 - y - b) % 18446744073709551616 : Nat) : Int), .int .u64 ((if x < y + b then 1 else 0 : Nat) : Int)])) w := by
 rw [run_callFunc_extern Tryz.func269 (by kernel_rfl) (by kernel_rfl) (by kernel_rfl) (e := sub64Entry) (by kernel_rfl), run_sub64 x y b hb];rfl
theorem bitsSub (x y b : Nat) (hb : b ≤ 1) (w : World) :
 Calls Tryz.prog 238 #[.int .u64 x, .int .u64 y, .int .u64 b] w fun e w' => e = .returned (.tuple #[.int .u64 (((x + 18446744073709551616 - y - b) % 18446744073709551616 : Nat) : Int), .int .u64 ((if x < y + b then 1 else 0 : Nat) : Int)]) ∧ w = w' := by
 have hr := fun w => run_sub64_here x y b hb w
 generalize ((x + 18446744073709551616 - y - b) % 18446744073709551616) = s at *
 generalize (if x < y + b then 1 else 0 : Nat) = q at *
 go_enter Tryz.func238, Tryz.ntmps238;go_wp2
 go_ret2;exact ⟨rfl, rfl⟩
end Go.Proofs.YteokhhepnoelhaaGreatDoor
