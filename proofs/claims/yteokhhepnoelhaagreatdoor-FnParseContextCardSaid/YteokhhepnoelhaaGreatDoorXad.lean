/-
  A natural number in memory (bigall's nat): make, norm, setWord, mulAddWW.
-/
import Derived.Test.YteokhhepnoelhaaGreatDoorXac
import Derived.Laws.MakeOwn
import Derived.Lib.ItoaNum
import Derived.Test.YteokhhepnoelhaaGreatDoorXab
set_option linter.unusedVariables false
set_option linter.unusedSimpArgs false
namespace Go.Proofs.YteokhhepnoelhaaGreatDoor
open Go.RowKit
def nval : List Nat → Nat
 | [] => 0
 | x :: xs => x + WB * nval xs
def normL : List Nat → List Nat
 | [] => []
 | x :: xs => match normL xs with
  | [] => if x = 0 then [] else [x]
  | y :: ys => x :: y :: ys
theorem normL_snoc_zero (xs : List Nat) : normL (xs ++ [0]) = normL xs := by
 induction xs with
 | nil => rfl
 | cons x xs ih => rw [List.cons_append, normL, normL, ih]
theorem normL_snoc (xs : List Nat) (x : Nat) (hx : x ≠ 0) : normL (xs ++ [x]) = xs ++ [x] := by
 induction xs with
 | nil => simp [normL, hx]
 | cons u xs ih =>
  rw [List.cons_append, normL, ih];cases xs <;> rfl
theorem normL_length (xs : List Nat) : (normL xs).length ≤ xs.length := by
 induction xs with
 | nil => simp [normL]
 | cons x xs ih =>
  rw [normL];cases h : normL xs with
  | nil => by_cases hx : x = 0 <;> simp [hx]
  | cons y ys => rw [h] at ih; simp at ih ⊢; omega
theorem nval_mulAdd (xs : List Nat) (y : Nat) : ∀ c, nval (mulAddZ xs y c ++ [mulAddC xs y c]) = nval xs * y + c := by
 induction xs with
 | nil => intro c; simp [mulAddZ, mulAddC, nval]
 | cons x xs ih =>
  intro c;rw [mulAddZ, mulAddC, List.cons_append, nval, ih, nval];have := Nat.div_add_mod (x * y + c) WB;generalize (x * y + c) / WB = q at *
  generalize (x * y + c) % WB = r at *
  rw [Nat.mul_add, Nat.add_mul, Nat.mul_assoc];omega
theorem mulAddZ_lt (xs : List Nat) (y : Nat) : ∀ c, ∀ u ∈ mulAddZ xs y c, u < WB := by
 induction xs with
 | nil => intro c u hu; simp [mulAddZ] at hu
 | cons x xs ih =>
  intro c u hu;rcases List.mem_cons.1 hu with rfl | hu;· exact Nat.mod_lt _ WB_pos
  · exact ih _ u hu
def natBlk : Value → Option Nat
 | .slice (some a) _ _ => some a.block
 | _ => none
def NatAt (w : World) (v : Value) (xs : List Nat) : Prop :=
 (v = .slice none 0 0 ∧ xs = []) ∨ ∃ g cap cs, v = .slice (some ⟨g, 0, none⟩) xs.length cap ∧ w.heap[g]? = some (.cells cs 105 (0, 0)) ∧ cap ≤ cs.size ∧ xs.length ≤ cap ∧ cap ≤ 1000000 ∧ ∀ (j x : Nat), xs[j]? = some x → cs[j]? = some (.int .u64 (x : Int))
theorem NatAt.nil (w : World) : NatAt w (.slice none 0 0) [] := .inl ⟨rfl, rfl⟩
theorem NatAt.fr {w w' : World} {S : Nat → Prop} {v : Value} {xs : List Nat} (h : NatAt w v xs) (hF : Fr S w w') (hS : ∀ g, natBlk v = some g → ¬ S g) : NatAt w' v xs := by
 rcases h with h | ⟨g, cap, cs, rfl, hg, h1, h2, h3, h4⟩
 · exact .inl h
 · exact .inr ⟨g, cap, cs, rfl, hF.blk hg (hS g rfl), h1, h2, h3, h4⟩
theorem NatAt.lt {w : World} {v : Value} {xs : List Nat} (h : NatAt w v xs) : ∀ g, natBlk v = some g → g < w.heap.size := by
 rcases h with ⟨rfl, _⟩ | ⟨g, cap, cs, rfl, hg, _⟩
 · intro g h; cases h
 · intro k hk; cases hk; exact blk_lt hg
theorem Tryz.info105 : (Tryz.prog.info? 105).map (fun i => (i.zero, i.size, i.bytes)) = some (some (.int .u64 0), 1, 8) := by kernel_rfl
theorem run_make66 (l c : Nat) (hlc : l ≤ c) (hc : c ≤ 1000000) (w : World) :
 (Instr.makeSlice 66 (.int .i64 (l : Int)) (.int .i64 (c : Int))).run Tryz.prog w = .ok (.slice (some ⟨w.heap.size, 0, none⟩) l c) (w.alloc (.cells (madeCells #[.int .u64 0] c) 105)) := by
 obtain ⟨i, hi, hz⟩ := Option.map_eq_some_iff.1 Tryz.info105;simp only [Prod.mk.injEq] at hz;obtain ⟨h0, h1, h2⟩ := hz;have h := run_make (P := Tryz.prog) w 66 105 i (.int .u64 0) Tryz.underlying66 hi h0 .i64 .i64 l c (by omega) (by omega) (by rw [h2]; omega) (by omega);rw [h1, Nat.mul_one, Int.toNat_natCast, Int.toNat_natCast] at h;exact h
def Made (w : World) (v : Value) (n : Nat) (e : Ending) (w' : World) : Prop :=
 ∃ g cap cs, e = .returned (.slice (some ⟨g, 0, none⟩) n cap) ∧ w'.heap[g]? = some (.cells cs 105 (0, 0)) ∧ cap ≤ cs.size ∧ n ≤ cap ∧ cap ≤ 1000000 ∧ Fr NoB w w' ∧ (natBlk v = some g ∨ w.heap.size ≤ g)
theorem natMake (v : Value) (zs : List Nat) (n : Nat) (w : World) (hv : NatAt w v zs) (hn : 1 ≤ n) (hn' : n ≤ 1000) :
 Calls Tryz.prog 153 #[v, .int .i64 (n : Int)] w (Made w v n) := by
 have new1 : Made w v 1 (.returned (.slice (some ⟨w.heap.size, 0, none⟩) 1 1)) (w.alloc (.cells #[.int .u64 0] 105)) :=
  ⟨w.heap.size, 1, _, rfl, blk_new _ _, by simp, by omega, by omega, (Fr.refl _ _).alloc _, .inr (Nat.le_refl _)⟩
 have newn : Made w v n (.returned (.slice (some ⟨w.heap.size, 0, none⟩) n (n + 4))) (w.alloc (.cells (madeCells #[.int .u64 0] (n + 4)) 105)) :=
  ⟨w.heap.size, n + 4, _, rfl, blk_new _ _, by simp [size_madeCells], by omega, by omega, (Fr.refl _ _).alloc _, .inr (Nat.le_refl _)⟩
 have N1 := hid new1; have NN := hid newn;have hm1 : ∀ w : World, (Instr.makeSlice 66 (.int .i64 1) (.int .i64 1)).run Tryz.prog w = .ok (.slice (some ⟨w.heap.size, 0, none⟩) 1 1) (w.alloc (.cells #[.int .u64 0] 105)) := fun _ => by kernel_rfl
 have hmn : ∀ w, (Instr.makeSlice 66 (.int .i64 (n : Int)) (.int .i64 ((n : Int) + 4))).run Tryz.prog w = .ok (.slice (some ⟨w.heap.size, 0, none⟩) n (n + 4)) (w.alloc (.cells (madeCells #[.int .u64 0] (n + 4)) 105)) := fun w => by
  have h := run_make66 n (n + 4) (by omega) (by omega) w;rw [show ((n + 4 : Nat) : Int) = (n : Int) + 4 by omega] at h;exact h
 rcases hv with ⟨rfl, rfl⟩ | ⟨g, cap, cs, rfl, hg, h1, h2, h3, h4⟩
 · clear new1 newn;by_cases h : n = 1
   · subst h;clear NN hmn;go_enter Tryz.func153, Tryz.ntmps153;go_wp2
     go_ret;exact N1.out
   · have hne : ((n : Int) == 1) = false := by simp; omega
     clear N1 hm1;go_enter Tryz.func153, Tryz.ntmps153;go_wp2
     go_ret;exact NN.out
 · by_cases hc : n ≤ cap
   · have old : Made w (.slice (some ⟨g, 0, none⟩) zs.length cap) n (.returned (.slice (some ⟨g, 0, none⟩) n cap)) w :=
      ⟨g, cap, cs, rfl, hg, h1, hc, h3, Fr.refl _ _, .inl rfl⟩
     have O := hid old;clear new1 newn N1 NN hm1 hmn old h4 hg;go_enter Tryz.func153, Tryz.ntmps153;go_wp2
     go_ret;exact O.out
   · clear new1 newn h4 hg;by_cases h : n = 1
     · subst h;clear NN hmn;go_enter Tryz.func153, Tryz.ntmps153;go_wp2
       go_ret;exact N1.out
     · have hne : ((n : Int) == 1) = false := by simp; omega
       clear N1 hm1;go_enter Tryz.func153, Tryz.ntmps153;go_wp2
       go_ret;exact NN.out
def Normed (w : World) (v : Value) (xs : List Nat) (e : Ending) (w' : World) : Prop :=
 w = w' ∧ ∃ v', e = .returned v' ∧ NatAt w v' (normL xs) ∧ natBlk v' = natBlk v
theorem natNorm (v : Value) (xs : List Nat) (w : World) (hv : NatAt w v xs) : Calls Tryz.prog 111 #[v] w (Normed w v xs) := by
 rcases hv with ⟨rfl, rfl⟩ | ⟨g, cap, cs, rfl, hg, h1, h2, h3, h4⟩
 · have N : Normed w (.slice none 0 0) [] (.returned (.slice none 0 0)) w := ⟨rfl, _, rfl, NatAt.nil w, rfl⟩
   have N := hid N;go_enter Tryz.func111, Tryz.ntmps111;go_wp2
   go_rounds 1
   go_ret;exact N.out
 · have HG := hid hg; have H4 := hid h4;clear hg h4;go_enter Tryz.func111, Tryz.ntmps111;go_wp2
   go_loop [3] (fun i => ∃ k : Nat, k ≤ xs.length ∧ i = .int .i64 k ∧ Hid (normL xs = normL (xs.take k))) (fun i => (intOf i).toNat);case atStart => exact ⟨xs.length, Nat.le_refl _, rfl, by rw [List.take_length]; exact hid rfl⟩
   case round =>
    obtain ⟨k, hk, rfl, hn⟩ := hrel;by_cases hk0 : k = 0
    · subst hk0;have N : Normed w (.slice (some ⟨g, 0, none⟩) xs.length cap) xs (.returned (.slice (some ⟨g, 0, none⟩) 0 cap)) w :=
       ⟨rfl, _, rfl, by rw [hn.out]; exact .inr ⟨g, cap, cs, rfl, HG.out, h1, by simp [normL], h3, by simp [normL]⟩, rfl⟩
      have N := hid N;clear hn;go_wp2
      go_ret;exact N.out
    · obtain ⟨j, rfl⟩ : ∃ j, k = j + 1 := ⟨k - 1, by omega⟩
      obtain ⟨x, hx⟩ : ∃ x, xs[j]? = some x := ⟨xs[j], List.getElem?_eq_getElem (by omega)⟩
      have htk : xs.take (j + 1) = xs.take j ++ [x] := by rw [List.take_add_one, hx]; rfl
      have hcell : w.cell? ⟨g, j, none⟩ = some (.int .u64 (x : Int)) := by rw [blk_cell HG.out]; exact H4.out j x hx
      by_cases hx0 : x = 0
      · subst hx0;have hn2 : normL xs = normL (xs.take j) := by rw [hn.out, htk, normL_snoc_zero]
        have HN := hid hn2;clear hn hn2 htk hx;go_wp2
        go_round
        case rel => exact ⟨j, by omega, by go_num, HN⟩
        case measure => simp [intOf]
      · have hxb : ((x : Int) == 0) = false := by simp; omega
        have hn2 : normL xs = xs.take (j + 1) := by rw [hn.out, htk, normL_snoc _ _ hx0]
        have hlen : (xs.take (j + 1)).length = j + 1 := by rw [List.length_take]; omega
        have hat : NatAt w (.slice (some ⟨g, 0, none⟩) (j + 1) cap) (normL xs) := by
         rw [hn2];refine .inr ⟨g, cap, cs, by rw [hlen], HG.out, h1, by omega, h3, fun i u hi => H4.out i u ?_⟩;rw [List.getElem?_take] at hi;split at hi
         · exact hi
         · cases hi
        have N : Normed w (.slice (some ⟨g, 0, none⟩) xs.length cap) xs (.returned (.slice (some ⟨g, 0, none⟩) (j + 1) cap)) w :=
         ⟨rfl, _, rfl, hat, rfl⟩
        have N := hid N;clear hn hn2 htk hx hlen hat;go_wp2
        go_ret;exact N.out
def limbs (n : Nat) : List Nat := if h : n = 0 then [] else n % WB :: limbs (n / WB)
termination_by n
decreasing_by exact Nat.div_lt_self (by omega) (by decide)
theorem limbs_zero : limbs 0 = [] := by rw [limbs]; simp
theorem limbs_pos {n : Nat} (h : n ≠ 0) : limbs n = n % WB :: limbs (n / WB) := by rw [limbs]; simp [h]
theorem limbs_lt (n : Nat) : ∀ x ∈ limbs n, x < WB := by
 induction n using Nat.strongRecOn with
 | _ n ih =>
  intro x hx;by_cases h : n = 0;· subst h; rw [limbs_zero] at hx; cases hx
  · rw [limbs_pos h] at hx;rcases List.mem_cons.1 hx with rfl | hx
    · exact Nat.mod_lt _ WB_pos
    · exact ih _ (Nat.div_lt_self (by omega) (by decide)) x hx
theorem nval_limbs (n : Nat) : nval (limbs n) = n := by
 induction n using Nat.strongRecOn with
 | _ n ih =>
  by_cases h : n = 0;· subst h; rw [limbs_zero]; rfl
  · rw [limbs_pos h, nval, ih _ (Nat.div_lt_self (by omega) (by decide)), Nat.mod_add_div]
theorem limbs_nil {n : Nat} : limbs n = [] ↔ n = 0 := by
 constructor;· intro h;have := nval_limbs n;rw [h] at this;exact this.symm
 · rintro rfl; exact limbs_zero
theorem normL_limbs (xs : List Nat) (h : ∀ x ∈ xs, x < WB) : normL xs = limbs (nval xs) := by
 induction xs with
 | nil => rw [nval, limbs_zero]; rfl
 | cons x xs ih =>
  have hx := h x (by simp);have ih := ih (fun u hu => h u (by simp [hu]));rw [normL, ih, nval];have hd : (x + WB * nval xs) / WB = nval xs := by rw [Nat.add_mul_div_left _ _ WB_pos, Nat.div_eq_of_lt hx, Nat.zero_add]
  have hm : (x + WB * nval xs) % WB = x := by rw [Nat.add_mul_mod_self_left, Nat.mod_eq_of_lt hx]
  by_cases h0 : nval xs = 0
  · rw [h0, limbs_zero];by_cases hx0 : x = 0
    · simp [hx0, limbs_zero]
    · have hne : x + WB * 0 ≠ 0 := by omega
      rw [h0] at hd hm;simp only [hx0, if_false];rw [limbs_pos hne, hd, hm, limbs_zero]
  · have hne : x + WB * nval xs ≠ 0 := by
     have : 0 < WB * nval xs := Nat.mul_pos WB_pos (by omega);omega
    rw [limbs_pos hne, hd, hm];rw [limbs_pos h0]
theorem limbs_length_le (k : Nat) : ∀ n, n < WB ^ k → (limbs n).length ≤ k := by
 induction k with
 | zero =>
  intro n h;rw [Nat.pow_zero] at h;have h0 : n = 0 := by omega
  subst h0;simp [limbs_zero]
 | succ k ih =>
  intro n h;by_cases h0 : n = 0;· subst h0; simp [limbs_zero]
  · rw [limbs_pos h0, List.length_cons];have : n / WB < WB ^ k := by
     rw [Nat.div_lt_iff_lt_mul WB_pos]; rw [Nat.pow_succ] at h; exact h
    have := ih _ this;omega
theorem limbs_mulAdd (X y r : Nat) (hr : r < WB) (hy : y < WB) : normL (mulAddZ (limbs X) y r ++ [mulAddC (limbs X) y r]) = limbs (X * y + r) := by
 rw [normL_limbs, nval_mulAdd, nval_limbs];intro x hx;rcases List.mem_append.1 hx with hx | hx;· exact mulAddZ_lt _ _ _ x hx
 · simp at hx; subst hx; exact mulAddC_lt _ _ hy _ hr (limbs_lt X)
def NatRes (w : World) (v : Value) (n : Nat) (e : Ending) (w' : World) : Prop :=
 ∃ v', e = .returned v' ∧ NatAt w' v' (limbs n) ∧ Fr (fun i => natBlk v = some i) w w' ∧ ∀ g, natBlk v' = some g → natBlk v = some g ∨ w.heap.size ≤ g
theorem natSetWord (v : Value) (zs : List Nat) (x : Nat) (hx : x < WB) (w : World) (hv : NatAt w v zs) :
 Calls Tryz.prog 162 #[v, .int .u64 (x : Int)] w (NatRes w v x) := by
 by_cases h0 : x = 0
 · subst h0;rcases hv with ⟨rfl, rfl⟩ | ⟨g, cap, cs, rfl, hg, h1, h2, h3, h4⟩
   · have N : NatRes w (.slice none 0 0) 0 (.returned (.slice none 0 0)) w := ⟨_, rfl, by rw [limbs_zero]; exact NatAt.nil w, Fr.refl _ _, fun g h => by cases h⟩
     have N := hid N;go_enter Tryz.func162, Tryz.ntmps162;go_wp2
     go_ret;exact N.out
   · have N : NatRes w (.slice (some ⟨g, 0, none⟩) zs.length cap) 0 (.returned (.slice (some ⟨g, 0, none⟩) 0 cap)) w :=
      ⟨_, rfl, by rw [limbs_zero]; exact .inr ⟨g, cap, cs, rfl, hg, h1, Nat.zero_le _, h3, by simp⟩, Fr.refl _ _, fun k h => .inl h⟩
     have N := hid N;clear hg h4;go_enter Tryz.func162, Tryz.ntmps162;go_wp2
     go_ret;exact N.out
 · have hx0 : ((x : Int) == 0) = false := by simp; omega
   have hl : limbs x = [x] := by
    rw [limbs_pos h0, Nat.mod_eq_of_lt hx, Nat.div_eq_of_lt hx, limbs_zero]
   have HL := hid hl; have HX := hid hx; have HV := hid hv;clear hl h0 hx hv;go_enter Tryz.func162, Tryz.ntmps162;go_wp2_with fail;refine (natMake v zs 1 w HV.out (by omega) (by omega)).mono ?_;rintro e w1 ⟨g, cap, cs, rfl, hg, h1, h2, h3, hF, hgb⟩;obtain ⟨v0, hv0⟩ : ∃ u, cs[0]? = some u := ⟨_, Array.getElem?_eq_getElem (by omega)⟩
   have hc0 : w1.cell? ⟨g, 0, none⟩ = some v0 := by rw [blk_cell hg]; exact hv0
   have hf0 : w1.frozen? ⟨g, 0, none⟩ = false := blk_frozen hg 0;have hset := blk_set hg 0 (.int .u64 (x : Int));have N : NatRes w v x (.returned (.slice (some ⟨g, 0, none⟩) 1 cap)) (w1.setCell ⟨g, 0, none⟩ (.int .u64 (x : Int))) := by
    refine ⟨_, rfl, ?_, ?_, ?_⟩
    · rw [HL.out];refine .inr ⟨g, cap, _, rfl, hset, by rw [Array.size_setIfInBounds]; exact h1, h2, h3, ?_⟩;intro j u hj;cases j with
      | zero => simp at hj; subst hj; rw [Array.getElem?_setIfInBounds, if_pos rfl, if_pos (by omega)]
      | succ j => simp at hj
    · refine Fr.setCell (Fr.mono hF (fun _ _ h => h.elim)) ?_ _;intro hlt;rcases hgb with h | h
      · exact h
      · exact absurd hlt (Nat.not_lt.2 h)
    · intro k hk;cases hk;exact hgb
   have N := hid N;clear hset hg hv0 hF hgb;go_wp2
   go_ret;exact N.out
set_option maxHeartbeats 1000000 in
theorem natMulAddWW (v vx : Value) (zs : List Nat) (X y r : Nat) (w : World) (hv : NatAt w v zs) (hvx : NatAt w vx (limbs X)) (hy : y < WB) (hr : r < WB) (hl : (limbs X).length ≤ 900) :
 Calls Tryz.prog 225 #[v, vx, .int .u64 (y : Int), .int .u64 (r : Int)] w (NatRes w v (X * y + r)) := by
 have HV := hid hv; have HVX := hid hvx; have HY := hid hy; have HR := hid hr;rcases hvx with ⟨rfl, hx0⟩ | ⟨gx, capx, csx, rfl, hgx, x1, x2, x3, x4⟩
 · have hX : X = 0 := limbs_nil.1 hx0;subst hX;have HS := hid (natSetWord v zs r hr w hv);have N0 := hid (show 0 * y + r = r by omega);clear hv hy hr hl hx0 HVX;go_enter Tryz.func225, Tryz.ntmps225;go_wp2_with fail;refine HS.out.mono ?_;rintro e w1 ⟨v', rfl, k1, k2, k3⟩;have N : NatRes w v (0 * y + r) (.returned v') w1 := ⟨v', rfl, by rw [N0.out]; exact k1, k2, k3⟩
   have N := hid N;clear k1 k2 k3;go_wp2
   go_ret;exact N.out
 · have hm0 : (((limbs X).length : Int) == 0) = false ∨ X = 0 := by
    by_cases h : X = 0;· exact .inr h
    · left;have : limbs X ≠ [] := fun hh => h (limbs_nil.1 hh)
      have : (limbs X).length ≠ 0 := fun hh => this (List.length_eq_zero_iff.1 hh)
      simp; omega
   by_cases hshort : X = 0 ∨ y = 0
   · have HS := hid (natSetWord v zs r hr w hv);have e0 : X * y + r = r := by rcases hshort with h | h <;> simp [h]
     have N0 := hid e0;have fin : ∀ v' w1, NatAt w1 v' (limbs r) → Fr (fun i => natBlk v = some i) w w1 → (∀ g, natBlk v' = some g → natBlk v = some g ∨ w.heap.size ≤ g) → NatRes w v (X * y + r) (.returned v') w1 :=
      fun v' w1 k1 k2 k3 => ⟨v', rfl, by rw [e0]; exact k1, k2, k3⟩
     have FIN := hid fin;by_cases hX : X = 0
     · subst hX;have hl0 : ((limbs 0).length : Int) = 0 := by rw [limbs_zero]; rfl
       have hl1 : (((limbs 0).length : Int) == 0) = true := by rw [hl0]; rfl
       clear hv hy hr hl hm0 hshort e0 fin hgx x4 hl0;go_enter Tryz.func225, Tryz.ntmps225;go_wp2_with fail;refine HS.out.mono ?_;rintro e w1 ⟨v', rfl, k1, k2, k3⟩;have N := hid (FIN.out v' w1 k1 k2 k3);clear k1 k2 k3;go_wp2
       go_ret;exact N.out
     · have hm1 : (((limbs X).length : Int) == 0) = false := hm0.resolve_right hX;have hy0 : y = 0 := hshort.resolve_left hX;subst hy0;clear hv hy hr hl hm0 hshort e0 fin hgx x4 hX;go_enter Tryz.func225, Tryz.ntmps225;go_wp2_with fail;refine HS.out.mono ?_;rintro e w1 ⟨v', rfl, k1, k2, k3⟩;have N := hid (FIN.out v' w1 k1 k2 k3);clear k1 k2 k3;go_wp2
       go_ret;exact N.out
   · have hX : X ≠ 0 := fun h => hshort (.inl h)
     have hm1 : (((limbs X).length : Int) == 0) = false := hm0.resolve_right hX;have hy0 : ((y : Int) == 0) = false := by
      have : y ≠ 0 := fun h => hshort (.inr h)
      simp; omega
     have hlen1 : 1 ≤ (limbs X).length := by
      have : limbs X ≠ [] := fun hh => hX (limbs_nil.1 hh)
      have : (limbs X).length ≠ 0 := fun hh => this (List.length_eq_zero_iff.1 hh)
      omega
     have HGX := hid hgx; have X4 := hid x4;have HLB := hid (limbs_lt X);have HLM := hid (limbs_mulAdd X y r hr hy);clear hv hy hr hm0 hshort hgx x4 hX;generalize limbs X = xs at *
     go_enter Tryz.func225, Tryz.ntmps225;go_wp2_with fail;have HM := natMake v zs (xs.length + 1) w HV.out (by omega) (by omega);rw [show ((xs.length + 1 : Nat) : Int) = (xs.length : Int) + 1 by omega] at HM;refine HM.mono ?_;clear HM;rintro e w1 ⟨g, cap, cs, rfl, hg, h1, h2, h3, hF, hgb⟩;have hgx1 := hF.blk HGX.out (fun h => h);have HC := hid (mulAddVWW g 0 cap gx 0 capx cs xs y r w1 hg (by omega) (fun j x hj => by rw [blk_cell hgx1, Nat.zero_add]; exact X4.out j x hj) (fun _ => rfl) HLB.out HY.out HR.out (by omega));have HF := hid hF; have HGB := hid hgb;clear hF hgb hgx1 hg;go_wp2_with fail;refine HC.out.mono ?_;clear HC;rintro e w2 ⟨rfl, hg2, hF2⟩;have hZl : (u64s (mulAddZ xs y r)).length = xs.length := by rw [u64s_length, mulAddZ_length]
     have hsz : (putV cs 0 (u64s (mulAddZ xs y r))).size = cs.size := putV_size _ _ _;obtain ⟨v0, hv0⟩ : ∃ u, (putV cs 0 (u64s (mulAddZ xs y r)))[xs.length]? = some u := ⟨_, Array.getElem?_eq_getElem (by omega)⟩
     have hc0 : w2.cell? ⟨g, xs.length, none⟩ = some v0 := by rw [blk_cell hg2]; exact hv0
     have hf0 : w2.frozen? ⟨g, xs.length, none⟩ = false := blk_frozen hg2 _;have hset := blk_set hg2 xs.length (.int .u64 (mulAddC xs y r : Int));have hput : (putV cs 0 (u64s (mulAddZ xs y r))).setIfInBounds xs.length (.int .u64 (mulAddC xs y r : Int)) = putV cs 0 (u64s (mulAddZ xs y r ++ [mulAddC xs y r])) := by
      rw [u64s_append, show u64s [mulAddC xs y r] = [.int .u64 (mulAddC xs y r : Int)] from rfl, putV_snoc, hZl, Nat.zero_add]
     rw [hput] at hset;have hlen : (mulAddZ xs y r ++ [mulAddC xs y r]).length = xs.length + 1 := by rw [List.length_append, mulAddZ_length]; rfl
     have hat : NatAt (w2.setCell ⟨g, xs.length, none⟩ (.int .u64 (mulAddC xs y r : Int))) (.slice (some ⟨g, 0, none⟩) (xs.length + 1) cap) (mulAddZ xs y r ++ [mulAddC xs y r]) := by
      refine .inr ⟨g, cap, _, by rw [hlen], hset, by rw [putV_size]; exact h1, by omega, h3, fun j x hj => ?_⟩;have := putV_get_in (u64s (mulAddZ xs y r ++ [mulAddC xs y r])) cs 0 j (by rw [u64s_length, hlen]; omega) (by rw [u64s_length]; exact (List.getElem?_eq_some_iff.1 hj).1);rw [Nat.zero_add] at this;rw [this, u64s_get, hj];rfl
     have hFw : Fr (fun i => natBlk v = some i) w (w2.setCell ⟨g, xs.length, none⟩ (.int .u64 (mulAddC xs y r : Int))) := by
      have a1 : Fr (fun i => natBlk v = some i) w w2 := by
       refine Fr.trans (Fr.mono HF.out (fun _ _ h => h.elim)) hF2 (fun i hi h => ?_);subst h;exact HGB.out.resolve_right (Nat.not_le.2 hi)
      exact a1.setCell (fun hi => HGB.out.resolve_right (Nat.not_le.2 hi)) _
     have HN := hid (natNorm _ _ _ hat);have fin : ∀ v' w3, Normed (w2.setCell ⟨g, xs.length, none⟩ (.int .u64 (mulAddC xs y r : Int))) (.slice (some ⟨g, 0, none⟩) (xs.length + 1) cap) (mulAddZ xs y r ++ [mulAddC xs y r]) (.returned v') w3 → NatRes w v (X * y + r) (.returned v') w3 := by
      rintro v' w3 ⟨rfl, u, hu, k1, k2⟩;cases hu;refine ⟨_, rfl, by rw [← HLM.out]; exact k1, hFw, fun k hk => ?_⟩;rw [k2] at hk;cases hk;exact HGB.out
     have FIN := hid fin;clear hset hput hat hFw fin hg2 hF2 hv0 hZl hsz hlen;generalize mulAddC xs y r = cc at *
     generalize mulAddZ xs y r ++ [cc] = zz at *
     go_wp2_with fail;refine HN.out.mono ?_;rintro e w3 ⟨hw, v', rfl, k1, k2⟩;have N := hid (FIN.out v' w3 ⟨hw, v', rfl, k1, k2⟩);clear hw k1 k2;go_wp2
     go_ret;exact N.out
def blen (n : Nat) : Nat := if n = 0 then 0 else n.log2 + 1
theorem blen_eq {n b : Nat} (h1 : 2 ^ b ≤ n) (h2 : n < 2 ^ (b + 1)) : blen n = b + 1 := by
 have h0 : n ≠ 0 := by have := Nat.pow_pos (n := b) (show 0 < 2 by omega); omega
 unfold blen;rw [if_neg h0, (Nat.log2_eq_iff h0).2 ⟨h1, h2⟩]
theorem blen_bounds {n : Nat} (h0 : n ≠ 0) : 2 ^ (blen n - 1) ≤ n ∧ n < 2 ^ blen n ∧ 1 ≤ blen n := by
 unfold blen;rw [if_neg h0];have := (Nat.log2_eq_iff h0).1 rfl;exact ⟨this.1, this.2, by omega⟩
theorem limbs_top : ∀ n : Nat, n ≠ 0 → ∃ m x, (limbs n).length = m + 1 ∧ (limbs n)[m]? = some x ∧ x ≠ 0 ∧ x < WB ∧ x * WB ^ m ≤ n ∧ n < (x + 1) * WB ^ m := by
 intro n;induction n using Nat.strongRecOn with
 | ind n ih =>
  intro h0;have hW : 0 < WB := by rw [WB_eq]; omega
  have hdm := Nat.div_add_mod n WB;have hmod := Nat.mod_lt n hW;rw [limbs_pos h0];by_cases hd : n / WB = 0
  · rw [hd, limbs_zero];refine ⟨0, n % WB, rfl, rfl, ?_, hmod, ?_, ?_⟩
    · rw [hd] at hdm; omega
    · rw [hd] at hdm; simp; omega
    · rw [hd] at hdm; simp; omega
  · obtain ⟨m, x, h1, h2, h3, h4, h5, h6⟩ := ih (n / WB) (Nat.div_lt_self (by omega) (by rw [WB_eq]; omega)) hd;refine ⟨m + 1, x, by rw [List.length_cons, h1], by rw [List.getElem?_cons_succ]; exact h2, h3, h4, ?_, ?_⟩
    · rw [Nat.pow_succ, ← Nat.mul_assoc];have := Nat.mul_le_mul_right WB h5;rw [Nat.mul_comm (n / WB) WB] at this;omega
    · rw [Nat.pow_succ, ← Nat.mul_assoc];have : (n / WB + 1) * WB ≤ ((x + 1) * WB ^ m) * WB := Nat.mul_le_mul_right WB h6;rw [Nat.add_mul, Nat.mul_comm (n / WB) WB] at this;omega
theorem blen_limbs {n m x : Nat} (hx : x ≠ 0) (h5 : x * WB ^ m ≤ n) (h6 : n < (x + 1) * WB ^ m) : blen n = m * 64 + blen x := by
 obtain ⟨b1, b2, b3⟩ := blen_bounds hx;have hW : WB ^ m = 2 ^ (m * 64) := by
  rw [WB_eq, show (18446744073709551616 : Nat) = 2 ^ 64 from rfl, ← Nat.pow_mul, Nat.mul_comm]
 rw [hW] at h5 h6;have hp : 0 < 2 ^ (m * 64) := Nat.pow_pos (by omega);have k1 : 2 ^ (m * 64 + (blen x - 1)) ≤ n := by
  rw [Nat.pow_add, Nat.mul_comm];exact Nat.le_trans (Nat.mul_le_mul_right _ b1) h5
 have k2 : n < 2 ^ (m * 64 + (blen x - 1) + 1) := by
  have e : m * 64 + (blen x - 1) + 1 = m * 64 + blen x := by omega
  rw [e, Nat.pow_add, Nat.mul_comm];exact Nat.lt_of_lt_of_le h6 (Nat.mul_le_mul_right _ b2)
 rw [blen_eq k1 k2];omega
theorem blen_smear (x k : Nat) : blen (x ||| x / 2 ^ k) = blen x := by
 by_cases h : x = 0;· subst h; simp
 · obtain ⟨b1, b2, b3⟩ := blen_bounds h;have hdiv : x / 2 ^ k ≤ x := Nat.div_le_self _ _;have hlt : (x ||| x / 2 ^ k) < 2 ^ blen x := Nat.or_lt_two_pow b2 (by omega);have hge : x ≤ (x ||| x / 2 ^ k) := Nat.left_le_or;have e : blen x = blen x - 1 + 1 := by omega
   rw [blen_eq (b := blen x - 1) (by omega) (by rw [← e]; exact hlt)];omega
theorem libBitLen (x : Nat) (hx : x < 18446744073709551616) : Lib.bitLen x = blen x := by
 by_cases h : x = 0;· subst h; simp [Lib.bitLen, Lib.bitLenAux_zero, blen]
 · have := Lib.bitLenAux_bounds 64 x hx h;unfold Lib.bitLen;have e : Lib.bitLenAux 64 x = Lib.bitLenAux 64 x - 1 + 1 := by omega
   rw [blen_eq (b := Lib.bitLenAux 64 x - 1) this.2.1 (by rw [← e]; exact this.2.2)];omega
def smear (x k : Nat) : Nat := x ||| x / 2 ^ k
theorem smear_lt {x k : Nat} (hx : x < 18446744073709551616) : smear x k < 18446744073709551616 := by
 have hdiv : x / 2 ^ k ≤ x := Nat.div_le_self _ _;exact Nat.or_lt_two_pow (n := 64) hx (by omega)
theorem or_smear (x k q : Nat) (hq : q = 2 ^ k) (hx : x < 18446744073709551616) : bits .or .u64 (x : Int) ((x : Int) / (q : Int)) = ((smear x k : Nat) : Int) := by
 have hdiv : x / q ≤ x := Nat.div_le_self _ _;rw [show ((x : Int) / (q : Int)) = ((x / q : Nat) : Int) by simp];rw [u64_or_nat x (x / q) (by omega) (by omega)];subst hq;rfl
set_option maxRecDepth 100000 in
set_option maxHeartbeats 1000000 in
theorem natBitLen (v : Value) (n : Nat) (w : World) (hv : NatAt w v (limbs n)) :
 Calls Tryz.prog 156 #[v] w fun e w' => e = .returned (.int .i64 (blen n)) ∧ w = w' := by
 rcases hv with ⟨rfl, hx0⟩ | ⟨gx, capx, csx, rfl, hgx, x1, x2, x3, x4⟩
 · have hn := limbs_nil.1 hx0;subst hn;go_enter Tryz.func156, Tryz.ntmps156;go_wp2
   go_ret;exact ⟨rfl, rfl⟩
 · by_cases h0 : n = 0
   · subst h0;have hl0 : (limbs 0).length = 0 := by rw [limbs_zero]; rfl
     rw [hl0] at *
     go_enter Tryz.func156, Tryz.ntmps156;go_wp2
     go_ret;exact ⟨rfl, rfl⟩
   · obtain ⟨m, x, h1, h2, h3, h4, h5, h6⟩ := limbs_top n h0;have hx : w.cell? ⟨gx, m, none⟩ = some (.int .u64 x) := by rw [blk_cell hgx]; exact x4 m x h2
     have hbl := blen_limbs h3 h5 h6;rw [h1] at x2 ⊢;have hb : (m : Int) ≤ 1000000 := by omega
     rw [WB_eq] at h4;have s1 := smear_lt (x := x) (k := 1) h4;have s2 := smear_lt (x := smear x 1) (k := 2) s1;have s3 := smear_lt (x := smear (smear x 1) 2) (k := 4) s2;have s4 := smear_lt (x := smear (smear (smear x 1) 2) 4) (k := 8) s3;have s5 := smear_lt (x := smear (smear (smear (smear x 1) 2) 4) 8) (k := 16) s4;have s6 := smear_lt (x := smear (smear (smear (smear (smear x 1) 2) 4) 8) 16) (k := 32) s5;have e1 : bits .or .u64 ((x : Nat) : Int) (((x : Nat) : Int) / 2) = ((smear x 1 : Nat) : Int) := or_smear x 1 2 rfl h4;have e2 : bits .or .u64 (((smear x 1) : Nat) : Int) ((((smear x 1) : Nat) : Int) / 4) = ((smear (smear x 1) 2 : Nat) : Int) := or_smear (smear x 1) 2 4 rfl s1;have e3 : bits .or .u64 (((smear (smear x 1) 2) : Nat) : Int) ((((smear (smear x 1) 2) : Nat) : Int) / 16) = ((smear (smear (smear x 1) 2) 4 : Nat) : Int) := or_smear (smear (smear x 1) 2) 4 16 rfl s2;have e4 : bits .or .u64 (((smear (smear (smear x 1) 2) 4) : Nat) : Int) ((((smear (smear (smear x 1) 2) 4) : Nat) : Int) / 256) = ((smear (smear (smear (smear x 1) 2) 4) 8 : Nat) : Int) := or_smear (smear (smear (smear x 1) 2) 4) 8 256 rfl s3;have e5 : bits .or .u64 (((smear (smear (smear (smear x 1) 2) 4) 8) : Nat) : Int) ((((smear (smear (smear (smear x 1) 2) 4) 8) : Nat) : Int) / 65536) = ((smear (smear (smear (smear (smear x 1) 2) 4) 8) 16 : Nat) : Int) := or_smear (smear (smear (smear (smear x 1) 2) 4) 8) 16 65536 rfl s4;have e6 : bits .or .u64 (((smear (smear (smear (smear (smear x 1) 2) 4) 8) 16) : Nat) : Int) ((((smear (smear (smear (smear (smear x 1) 2) 4) 8) 16) : Nat) : Int) / 65536 / 65536) = ((smear (smear (smear (smear (smear (smear x 1) 2) 4) 8) 16) 32 : Nat) : Int) := by
      rw [Int.ediv_ediv_of_nonneg (by omega)];exact or_smear (smear (smear (smear (smear (smear x 1) 2) 4) 8) 16) 32 4294967296 rfl s5
     have hfin : blen (smear (smear (smear (smear (smear (smear x 1) 2) 4) 8) 16) 32) = blen x := by
      unfold smear;rw [blen_smear, blen_smear, blen_smear, blen_smear, blen_smear, blen_smear]
     have HB := hid hbl; have HF := hid hfin;have hle : blen x ≤ 64 := by
      by_cases hh : x = 0;· exact absurd hh h3
      · have := (blen_bounds hh).1;refine Nat.le_of_not_lt (fun hlt => ?_);have : 2 ^ 64 ≤ 2 ^ (blen x - 1) := Nat.pow_le_pow_right (by omega) (by omega);omega
     have E1 := hid e1; have E2 := hid e2; have E3 := hid e3; have E4 := hid e4; have E5 := hid e5; have E6 := hid e6;have HL := hid (libBitLen _ s6);have HS6 := hid s6;clear hbl hfin h1 h2 h3 h4 h5 h6 hgx x4 s1 s2 s3 s4 s5 s6;go_enter Tryz.func156, Tryz.ntmps156;go_wp2_with fail;refine (Tryz.bits_Len _ _ (by omega) (by have := HS6.out; omega)).mono ?_;rintro e w1 ⟨rfl, rfl⟩;rw [Int.toNat_natCast, HL.out, HF.out];go_wp2_with fail;go_ret;exact ⟨by rw [HB.out]; simp, rfl⟩
end Go.Proofs.YteokhhepnoelhaaGreatDoor
namespace Go.Proofs.YteokhhepnoelhaaGreatDoor
open Go.RowKit Go.Proofs.YteokhhepnoelhaaGreatDoorW.PrintWords PFnParse
def Evt {α : Type} (g : Nat → Option α) (r : α) : Prop := ∃ K, ∀ k, K ≤ k → g k = some r
theorem Evt.const {α : Type} (r : α) : Evt (fun _ => some r) r := ⟨0, fun _ _ => rfl⟩
theorem Evt.step {α : Type} {g h : Nat → Option α} {r : α} (hh : Evt h r) (e : ∀ k, g (k + 1) = h k) : Evt g r := by
 obtain ⟨K, hK⟩ := hh;exact ⟨K + 1, fun k hk => by
  obtain ⟨m, rfl⟩ : ∃ m, k = m + 1 := ⟨k - 1, by omega⟩
  rw [e]; exact hK m (by omega)⟩
theorem Evt.of {α : Type} {g : Nat → Option α} {r : α} (e : ∀ k, g (k + 1) = some r) : Evt g r := Evt.step (Evt.const r) e
theorem Evt.same {α : Type} {g h : Nat → Option α} {r : α} (hh : Evt h r) (e : ∀ k, g k = h k) : Evt g r := by
 obtain ⟨K, hK⟩ := hh;exact ⟨K, fun k hk => by rw [e]; exact hK k hk⟩
theorem Evt.bind {α β : Type} {f : Nat → Option α} {g : Nat → α → Option β} {a : α} {b : β} (h1 : Evt f a) (h2 : Evt (fun k => g k a) b) : Evt (fun k => (f k).bind (g k)) b := by
 obtain ⟨K, hK⟩ := h1;obtain ⟨L, hL⟩ := h2;exact ⟨max K L, fun k hk => by
  show (f k).bind (g k) = some b;rw [hK k (by omega), Option.bind_some];exact hL k (by omega)⟩
theorem Evt.get {α : Type} {g : Nat → Option α} {r : α} (h : Evt g r) : ∃ k, g k = some r := by
 obtain ⟨K, hK⟩ := h;exact ⟨K, hK K (Nat.le_refl _)⟩
def bval : List Nat → Nat
 | [] => 0
 | x :: xs => x + 65536 * bval xs
def digs (n : Nat) : List Nat := if h : n = 0 then [] else n % 65536 :: digs (n / 65536)
termination_by n
decreasing_by exact Nat.div_lt_self (by omega) (by decide)
theorem digs_zero : digs 0 = [] := by rw [digs]; simp
theorem digs_pos {n : Nat} (h : n ≠ 0) : digs n = n % 65536 :: digs (n / 65536) := by rw [digs]; simp [h]
def Bd (xs : List Nat) : Prop := ∀ x ∈ xs, x < 65536
theorem digs_lt (n : Nat) : Bd (digs n) := by
 induction n using Nat.strongRecOn with
 | _ n ih =>
  intro x hx;by_cases h : n = 0;· subst h; rw [digs_zero] at hx; cases hx
  · rw [digs_pos h] at hx;rcases List.mem_cons.1 hx with rfl | hx
    · exact Nat.mod_lt _ (by omega)
    · exact ih _ (Nat.div_lt_self (by omega) (by decide)) x hx
theorem bval_digs (n : Nat) : bval (digs n) = n := by
 induction n using Nat.strongRecOn with
 | _ n ih =>
  by_cases h : n = 0;· subst h; rw [digs_zero]; rfl
  · rw [digs_pos h, bval, ih _ (Nat.div_lt_self (by omega) (by decide)), Nat.mod_add_div]
theorem digs_nil {n : Nat} : digs n = [] ↔ n = 0 := by
 constructor;· intro h;have := bval_digs n;rw [h] at this;exact this.symm
 · rintro rfl; exact digs_zero
theorem normL_digs (xs : List Nat) (h : Bd xs) : normL xs = digs (bval xs) := by
 induction xs with
 | nil => rw [bval, digs_zero]; rfl
 | cons x xs ih =>
  have hx := h x (by simp);have ih := ih (fun u hu => h u (by simp [hu]));rw [normL, ih, bval];have hd : (x + 65536 * bval xs) / 65536 = bval xs := by omega
  have hm : (x + 65536 * bval xs) % 65536 = x := by omega
  by_cases h0 : bval xs = 0
  · rw [h0, digs_zero];by_cases hx0 : x = 0
    · simp [hx0, digs_zero]
    · have hne : x + 65536 * 0 ≠ 0 := by omega
      rw [h0] at hd hm;simp only [hx0, if_false];rw [digs_pos hne, hd, hm, digs_zero]
  · have hne : x + 65536 * bval xs ≠ 0 := by omega
    rw [digs_pos hne, hd, hm];rw [digs_pos h0]
theorem bval_append (xs ys : List Nat) : bval (xs ++ ys) = bval xs + 65536 ^ xs.length * bval ys := by
 induction xs with
 | nil => simp [bval]
 | cons x xs ih => rw [List.cons_append, bval, bval, ih, List.length_cons, Nat.pow_succ, Nat.mul_add, Nat.mul_comm (65536 ^ xs.length) 65536, Nat.mul_assoc]; omega
theorem bval_lt (xs : List Nat) (h : Bd xs) : bval xs < 65536 ^ xs.length := by
 induction xs with
 | nil => simp [bval]
 | cons x xs ih =>
  have h1 := h x (by simp);have h2 := ih (fun u hu => h u (by simp [hu]));rw [bval, List.length_cons, Nat.pow_succ];omega
theorem digs_length_le (k : Nat) : ∀ n, n < 65536 ^ k → (digs n).length ≤ k := by
 induction k with
 | zero =>
  intro n h;rw [Nat.pow_zero] at h;have h0 : n = 0 := by omega
  subst h0;simp [digs_zero]
 | succ k ih =>
  intro n h;by_cases h0 : n = 0;· subst h0; simp [digs_zero]
  · rw [digs_pos h0, List.length_cons];rw [Nat.pow_succ] at h;have := ih (n / 65536) (by omega);omega
def zs (xs : List Nat) : List Int := xs.map fun (x : Nat) => (x : Int)
theorem zs_length (xs : List Nat) : (zs xs).length = xs.length := by simp [zs]
theorem zs_append (xs ys : List Nat) : zs (xs ++ ys) = zs xs ++ zs ys := by simp [zs]
theorem zs_take (xs : List Nat) (n : Nat) : (zs xs).take n = zs (xs.take n) := by simp [zs, List.map_take]
theorem zs_one (x : Nat) : [(x : Int)] = zs [x] := rfl
theorem zs_set (xs : List Nat) (i x : Nat) : (zs xs).set i (x : Int) = zs (xs.set i x) := by simp [zs, List.map_set]
theorem rd_zs (xs : List Nat) (i x : Nat) (h : xs[i]? = some x) : rd (zs xs) (i : Int) = (x : Int) := by
 unfold rd;rw [List.getD_eq_getElem?_getD, show ((i : Int)).toNat = i by omega];simp [zs, h]
theorem wrap_in (n : Int) (h1 : -9223372036854775808 ≤ n) (h2 : n ≤ 9223372036854775807) : wrap64 n = n := by
 unfold wrap64;omega
theorem wrap_nat (n : Nat) (h : n ≤ 9223372036854775807) : wrap64 (n : Int) = (n : Int) := wrap_in _ (by omega) (by omega)
theorem wrap_succ (i : Nat) (h : i ≤ 1000000) : wrap64 ((i : Int) + 1) = ((i + 1 : Nat) : Int) := by
 rw [wrap_in _ (by omega) (by omega)]; omega
theorem wrap_zero (i : Nat) (h : i ≤ 1000000) : wrap64 ((i : Int) + 0) = (i : Int) := by
 rw [wrap_in _ (by omega) (by omega)]; omega
theorem wrap_two (c x : Nat) (hc : c ≤ 1000000) (hx : x ≤ 1000000) : wrap64 ((c : Int) + x) = ((c + x : Nat) : Int) := by
 rw [wrap_in _ (by omega) (by omega)]; omega
theorem wrap_three (c x y : Nat) (hc : c ≤ 1000000) (hx : x ≤ 1000000) (hy : y ≤ 1000000) : wrap64 (wrap64 ((c : Int) + x) + y) = ((c + x + y : Nat) : Int) := by
 rw [wrap_two c x hc hx, wrap_in _ (by omega) (by omega)]; omega
theorem wrap_mul (c x y : Nat) (hc : c < 65536) (hx : x < 65536) (hy : y < 65536) : wrap64 (0 + wrap64 ((c : Int) + wrap64 ((x : Int) * (y : Int)))) = ((c + x * y : Nat) : Int) := by
 have hp : x * y ≤ 65535 * 65535 := Nat.mul_le_mul (by omega) (by omega);rw [show (x : Int) * (y : Int) = ((x * y : Nat) : Int) by simp];generalize x * y = p at *
 rw [wrap_in (p : Int) (by omega) (by omega), wrap_in ((c : Int) + p) (by omega) (by omega), wrap_in _ (by omega) (by omega)];omega
theorem trim_ev (xs : List Nat) (h : xs.length ≤ 1000000) : Evt (fun k => spec_trim.f k (zs xs)) (zs (normL xs)) := by
 obtain ⟨n, hn⟩ : ∃ n, xs.length = n := ⟨_, rfl⟩
 induction n generalizing xs with
 | zero =>
  have : xs = [] := List.eq_nil_of_length_eq_zero hn;subst this;exact Evt.of fun k => by
   simp only [spec_trim.f, spec_trim.l0];rw [if_neg (by simp [zs])];rfl
 | succ n ih =>
  obtain ⟨ys, x, rfl⟩ : ∃ ys x, xs = ys ++ [x] := ⟨xs.dropLast, xs.getLast (by intro h; rw [h] at hn; cases hn), (List.dropLast_concat_getLast _).symm⟩
  have hy : ys.length = n := by simpa using hn
  have hl : (((zs (ys ++ [x])).length : Int)) = (n : Int) + 1 := by rw [zs_length]; simp; omega
  have hw := hid (show wrap64 ((n : Int) + 1 - 1) = (n : Int) by rw [wrap_in _ (by omega) (by omega)]; omega);have hr := hid (show rd (zs (ys ++ [x])) (n : Int) = (x : Int) from rd_zs _ _ _ (by rw [← hy]; simp));by_cases h0 : x = 0
  · refine Evt.step (h := fun k => spec_trim.f k (zs ys)) (by rw [show normL (ys ++ [x]) = normL ys by rw [h0]; exact normL_snoc_zero ys]; exact ih ys (by omega) hy) fun k => ?_
    simp only [spec_trim.f, spec_trim.l0];rw [hl, hw.out, hr.out, if_pos (by omega), if_pos (by omega), if_pos (by omega), if_pos (by omega), if_pos (by omega)];congr 1
    rw [zs_take, show ((n : Int)).toNat = ys.length by omega, List.take_left' rfl]
  · refine Evt.of fun k => ?_
    simp only [spec_trim.f, spec_trim.l0];rw [hl, hw.out, hr.out, if_pos (by omega), if_pos (by omega), if_pos (by omega), if_neg (by omega), normL_snoc ys x h0]
def addL : List Nat → List Nat → Nat → List Nat
 | [], [], c => [c]
 | x :: xs, [], c => (c + x) % 65536 :: addL xs [] ((c + x) / 65536)
 | [], y :: ys, c => (c + y) % 65536 :: addL [] ys ((c + y) / 65536)
 | x :: xs, y :: ys, c => (c + x + y) % 65536 :: addL xs ys ((c + x + y) / 65536)
theorem addL_val : ∀ (xs ys : List Nat) (c : Nat), bval (addL xs ys c) = bval xs + bval ys + c
 | [], [], c => by simp [addL, bval]
 | x :: xs, [], c => by simp only [addL, bval, addL_val xs []]; omega
 | [], y :: ys, c => by simp only [addL, bval, addL_val [] ys]; omega
 | x :: xs, y :: ys, c => by simp only [addL, bval, addL_val xs ys]; omega
theorem addL_bd : ∀ (xs ys : List Nat) (c : Nat), Bd xs → Bd ys → c ≤ 1 → Bd (addL xs ys c)
 | [], [], c, _, _, hc => by intro z hz; simp [addL] at hz; omega
 | x :: xs, [], c, hx, hy, hc => by
  have h1 := hx x (by simp);intro z hz;rw [addL, List.mem_cons] at hz;rcases hz with rfl | hz;· omega
  · exact addL_bd xs [] _ (fun u hu => hx u (by simp [hu])) hy (by omega) z hz
 | [], y :: ys, c, hx, hy, hc => by
  have h1 := hy y (by simp);intro z hz;rw [addL, List.mem_cons] at hz;rcases hz with rfl | hz;· omega
  · exact addL_bd [] ys _ hx (fun u hu => hy u (by simp [hu])) (by omega) z hz
 | x :: xs, y :: ys, c, hx, hy, hc => by
  have h1 := hx x (by simp);have h2 := hy y (by simp);intro z hz;rw [addL, List.mem_cons] at hz;rcases hz with rfl | hz;· omega
  · exact addL_bd xs ys _ (fun u hu => hx u (by simp [hu])) (fun u hu => hy u (by simp [hu])) (by omega) z hz
theorem drop_get {xs : List Nat} {i : Nat} (h : i < xs.length) : ∃ x, xs[i]? = some x ∧ xs.drop i = x :: xs.drop (i + 1) :=
 ⟨xs[i], List.getElem?_eq_getElem h, by rw [List.drop_eq_getElem_cons h]⟩
theorem tmod_nat (a : Nat) : Int.tmod (a : Int) 65536 = ((a % 65536 : Nat) : Int) := by
 rw [Int.tmod_eq_emod_of_nonneg (by omega)]; omega
theorem tdiv_nat (a : Nat) : Int.tdiv (a : Int) 65536 = ((a / 65536 : Nat) : Int) := by
 rw [Int.tdiv_eq_ediv_of_nonneg (by omega)]; omega
theorem Add_l0 (xs ys : List Nat) (hx : Bd xs) (hy : Bd ys) (hlx : xs.length ≤ 10000) (hly : ys.length ≤ 10000) :
 ∀ (d i c : Nat) (o : List Nat), max xs.length ys.length - i = d → c ≤ 1 → o.length = i → i ≤ 20000 →
  Evt (fun k => spec_Add.l0 k (zs xs) (zs ys) (zs o) (c : Int) (i : Int)) (zs (normL (o ++ addL (xs.drop i) (ys.drop i) c))) := by
 intro d;induction d with
 | zero =>
  intro i c o hd hc ho hi;have e1 : xs.drop i = [] := List.drop_of_length_le (by omega);have e2 : ys.drop i = [] := List.drop_of_length_le (by omega);rw [e1, e2, addL];refine Evt.step (h := fun k => spec_Add.j1 k (zs xs) (zs ys) (zs o) (c : Int) (i : Int) false) ?_ fun k => ?_
  · refine Evt.step (h := fun k => (spec_trim.f k (zs (o ++ [c]))).bind fun t => some t) (Evt.bind (trim_ev _ (by simp; omega)) (Evt.const _)) fun k => ?_
    simp only [spec_Add.j1];rw [if_neg (by simp), if_pos (by rw [zs_length]; omega), zs_append];rfl
  · simp only [spec_Add.l0];rw [if_neg (by rw [zs_length]; omega)];congr 1
    simp only [decide_eq_false_iff_not];rw [zs_length]; omega
 | succ d ih =>
  intro i c o hd hc ho hi;have hi64 := hid (wrap_succ i (by omega));have hol : (zs o).length < 17592186044416 := by rw [zs_length]; omega
  by_cases hxi : i < xs.length
  · obtain ⟨x, gx, dx⟩ := drop_get hxi;have hxb := hx x (List.mem_of_getElem? gx);have rx := hid (rd_zs xs i x gx);by_cases hyi : i < ys.length
    · obtain ⟨y, gy, dy⟩ := drop_get hyi;have hyb := hy y (List.mem_of_getElem? gy);have ry := hid (rd_zs ys i y gy);have hs := hid (wrap_three c x y (by omega) (by omega) (by omega));have hI := ih (i + 1) ((c + x + y) / 65536) (o ++ [(c + x + y) % 65536]) (by omega) (by omega) (by simp; omega) (by omega);rw [dx, dy, addL];rw [List.append_assoc, List.singleton_append] at hI;refine Evt.step (h := fun k => spec_Add.j1 k (zs xs) (zs ys) (zs o) (c : Int) (i : Int) true) (Evt.step hI fun k => ?_) fun k => ?_
      · simp only [spec_Add.j1];rw [if_pos trivial, if_pos (by rw [zs_length]; omega), if_pos (by omega), if_pos (by rw [zs_length]; omega), if_pos hol, rx.out, ry.out, hs.out, tmod_nat, tdiv_nat, wrap_nat _ (by omega), hi64.out, zs_one, ← zs_append]
      · simp only [spec_Add.l0];rw [if_pos (by rw [zs_length]; omega)]
    · have dy : ys.drop i = [] := List.drop_of_length_le (by omega);have dy' : ys.drop (i + 1) = [] := List.drop_of_length_le (by omega);have hs := hid (wrap_two c x (by omega) (by omega));have hI := ih (i + 1) ((c + x) / 65536) (o ++ [(c + x) % 65536]) (by omega) (by omega) (by simp; omega) (by omega);rw [dx, dy, addL];rw [List.append_assoc, List.singleton_append, dy'] at hI;refine Evt.step (h := fun k => spec_Add.j1 k (zs xs) (zs ys) (zs o) (c : Int) (i : Int) true) (Evt.step hI fun k => ?_) fun k => ?_
      · simp only [spec_Add.j1];rw [if_pos trivial, if_pos (by rw [zs_length]; omega), if_pos (by omega), if_neg (by rw [zs_length]; omega), if_pos hol, rx.out, hs.out, tmod_nat, tdiv_nat, wrap_nat _ (by omega), hi64.out, zs_one, ← zs_append]
      · simp only [spec_Add.l0];rw [if_pos (by rw [zs_length]; omega)]
  · have hyi : i < ys.length := by omega
    obtain ⟨y, gy, dy⟩ := drop_get hyi;have hyb := hy y (List.mem_of_getElem? gy);have ry := hid (rd_zs ys i y gy);have dx : xs.drop i = [] := List.drop_of_length_le (by omega);have dx' : xs.drop (i + 1) = [] := List.drop_of_length_le (by omega);have hs := hid (wrap_two c y (by omega) (by omega));have hI := ih (i + 1) ((c + y) / 65536) (o ++ [(c + y) % 65536]) (by omega) (by omega) (by simp; omega) (by omega);rw [dx, dy, addL];rw [List.append_assoc, List.singleton_append, dx'] at hI;refine Evt.step (h := fun k => spec_Add.j1 k (zs xs) (zs ys) (zs o) (c : Int) (i : Int) true) (Evt.step hI fun k => ?_) fun k => ?_
    · simp only [spec_Add.j1];rw [if_pos trivial, if_neg (by rw [zs_length]; omega), if_pos (by rw [zs_length]; omega), if_pos (by omega), if_pos hol, ry.out, hs.out, tmod_nat, tdiv_nat, wrap_nat _ (by omega), hi64.out, zs_one, ← zs_append]
    · simp only [spec_Add.l0];rw [if_neg (by rw [zs_length]; omega)];congr 1
      simp only [decide_eq_true_eq];rw [zs_length]; omega
theorem Add_ev (a b : Nat) (ha : (digs a).length ≤ 10000) (hb : (digs b).length ≤ 10000) : Evt (fun k => spec_Add.f k (zs (digs a)) (zs (digs b))) (zs (digs (a + b))) := by
 have h := Add_l0 (digs a) (digs b) (digs_lt a) (digs_lt b) ha hb _ 0 0 [] rfl (by omega) rfl (by omega);rw [List.nil_append, List.drop_zero, List.drop_zero, normL_digs _ (addL_bd _ _ _ (digs_lt a) (digs_lt b) (by omega)), addL_val, bval_digs, bval_digs, Nat.add_zero] at h;exact h
theorem Small_l0 (n : Nat) (hn : n < 4611686018427387904) : ∀ o : List Nat, o.length ≤ 1000 → Evt (fun k => spec_Small.l0 k (n : Int) (zs o)) (zs (o ++ digs n)) := by
 have key : ∀ (m : Nat) (n : Nat), n < 65536 ^ m → n < 4611686018427387904 → ∀ o : List Nat, o.length + m ≤ 2000 → Evt (fun k => spec_Small.l0 k (n : Int) (zs o)) (zs (o ++ digs n)) := by
  intro m;induction m with
  | zero =>
   intro n h1 h2 o ho;have : n = 0 := by rw [Nat.pow_zero] at h1; omega
   subst this;rw [digs_zero, List.append_nil];exact Evt.of fun k => by
    simp only [spec_Small.l0];rw [if_neg (by simp)]
  | succ m ih =>
   intro n h1 h2 o ho;by_cases h0 : n = 0
   · subst h0;rw [digs_zero, List.append_nil];exact Evt.of fun k => by
      simp only [spec_Small.l0];rw [if_neg (by simp)]
   · rw [Nat.pow_succ] at h1;have hI := ih (n / 65536) (by omega) (by omega) (o ++ [n % 65536]) (by simp; omega);rw [List.append_assoc, List.singleton_append, ← digs_pos h0] at hI;refine Evt.step hI fun k => ?_
     simp only [spec_Small.l0];rw [if_pos (by omega), if_pos (by rw [zs_length]; omega), tdiv_nat, tmod_nat, wrap_nat _ (by omega), zs_one, ← zs_append]
 intro o ho;exact key 4 n (by omega) hn o (by omega)
theorem Small_ev (n : Nat) (hn : n < 4611686018427387904) : Evt (fun k => spec_Small.f k (n : Int)) (zs (digs n)) := by
 have h := Small_l0 n hn [] (by simp);rwa [List.nil_append] at h
def mulL : List Nat → Nat → Nat → List Nat
 | [], _, c => [c]
 | x :: xs, y, c => (c + x * y) % 65536 :: mulL xs y ((c + x * y) / 65536)
theorem mulL_val : ∀ (xs : List Nat) (y c : Nat), bval (mulL xs y c) = bval xs * y + c
 | [], y, c => by simp [mulL, bval]
 | x :: xs, y, c => by
  rw [mulL, bval, mulL_val xs y, bval, Nat.add_mul, Nat.mul_assoc];generalize x * y = p;generalize bval xs * y = q;omega
theorem mul_carry {x y c : Nat} (hx : x < 65536) (hy : y < 65536) (hc : c < 65536) : c + x * y < 4294967296 ∧ (c + x * y) / 65536 < 65536 := by
 have h : x * y ≤ 65535 * 65535 := Nat.mul_le_mul (by omega) (by omega);generalize x * y = p at *
 omega
theorem mulL_bd : ∀ (xs : List Nat) (y c : Nat), Bd xs → y < 65536 → c < 65536 → Bd (mulL xs y c)
 | [], y, c, _, _, hc => by intro z hz; simp [mulL] at hz; omega
 | x :: xs, y, c, hx, hy, hc => by
  intro z hz;rw [mulL, List.mem_cons] at hz;rcases hz with rfl | hz;· exact Nat.mod_lt _ (by omega)
  · exact mulL_bd xs y _ (fun u hu => hx u (by simp [hu])) hy (mul_carry (hx x (by simp)) hy hc).2 z hz
theorem Mul_l0 (xs : List Nat) (y : Nat) (hx : Bd xs) (hy : y < 65536) (hl : xs.length ≤ 10000) :
 ∀ (d i c : Nat) (o : List Nat), xs.length - i = d → i ≤ xs.length → c < 65536 → o.length = i →
  Evt (fun k => spec_Mul.l0 k (zs [y]) (zs (o ++ c :: List.replicate d 0)) (zs xs) ((zs xs).length : Int) (i : Int)) (zs (normL (o ++ mulL (xs.drop i) y c))) := by
 intro d;induction d with
 | zero =>
  intro i c o hd hi hc ho;have e1 : xs.drop i = [] := List.drop_of_length_le (by omega);rw [e1, mulL, List.replicate_zero];refine Evt.step (h := fun k => (spec_trim.f k (zs (o ++ [c]))).bind fun t => some t) (Evt.bind (trim_ev _ (by simp; omega)) (Evt.const _)) fun k => ?_
  simp only [spec_Mul.l0];rw [if_neg (by rw [zs_length]; omega)]
 | succ d ih =>
  intro i c o hd hi hc ho;have hxi : i < xs.length := by omega
  obtain ⟨x, gx, dx⟩ := drop_get hxi;have hxb := hx x (List.mem_of_getElem? gx);have rx := hid (rd_zs xs i x gx);have hmc := mul_carry hxb hy hc;have hI := ih (i + 1) ((c + x * y) / 65536) (o ++ [(c + x * y) % 65536]) (by omega) (by omega) hmc.2 (by simp; omega);simp only [List.append_assoc, List.singleton_append] at hI;rw [dx, mulL];have hlen : ((zs (o ++ c :: List.replicate (d + 1) 0)).length : Int) = (i : Int) + 1 + ((d : Int) + 1) := by rw [zs_length]; simp; omega
  have hlen2 : ((zs (o ++ (c + x * y) % 65536 :: List.replicate (d + 1) 0)).length : Int) = (i : Int) + 1 + ((d : Int) + 1) := by rw [zs_length]; simp; omega
  have hi64 := hid (wrap_succ i (by omega));have hi0 := hid (wrap_zero i (by omega));have r0 := hid (show rd (zs (o ++ c :: List.replicate (d + 1) 0)) (i : Int) = (c : Int) from rd_zs _ _ _ (by rw [← ho]; simp));have ry := hid (show rd (zs [y]) 0 = (y : Int) from rd_zs [y] 0 y rfl);have hs := hid (wrap_mul c x y hc hxb hy);have hy1 : ((zs [y]).length : Int) = 1 := by rw [zs_length]; rfl
  have hcarry := hid (wrap_nat ((c + x * y) / 65536) (by omega));have h01 := hid (show wrap64 (0 + 1) = 1 by rw [wrap_in _ (by omega) (by omega)]; rfl);obtain ⟨H1, H2⟩ := hmc;generalize hpp : c + x * y = p at *
  clear hpp;refine Evt.step (h := fun k => spec_Mul.l1 k (zs [y]) (zs (o ++ c :: List.replicate (d + 1) 0)) (i : Int) (x : Int) 0 (zs xs) ((zs xs).length : Int) (i : Int) (zs [y]) ((zs [y]).length : Int) 0) ?_ fun k => ?_
  · refine Evt.step (h := fun k => spec_Mul.l1 k (zs [y]) (zs (o ++ p % 65536 :: List.replicate (d + 1) 0)) (i : Int) (x : Int) ((p / 65536 : Nat) : Int) (zs xs) ((zs xs).length : Int) (i : Int) (zs [y]) ((zs [y]).length : Int) 1) ?_ fun k => ?_
    · refine Evt.step hI fun k => ?_
      simp only [spec_Mul.l1];rw [hy1, if_neg (by omega), hi64.out, hlen2, if_pos (by omega), if_pos (by omega), zs_set];congr 2
      rw [show (((i + 1 : Nat) : Int)).toNat = i + 1 by omega, List.set_append_right _ _ (by omega)];congr 1
      rw [show i + 1 - o.length = 1 by omega, List.replicate_succ];rfl
    · simp only [spec_Mul.l1];rw [hy1, if_pos (by omega), if_pos (by omega), if_pos (by omega), hi0.out, if_pos (by omega), hlen, if_pos (by omega), r0.out, ry.out, hs.out, tmod_nat, tdiv_nat, hcarry.out, h01.out, zs_set];congr 2
      rw [show ((i : Int)).toNat = i by omega, List.set_append_right _ _ (by omega), show i - o.length = 0 by omega];rfl
  · simp only [spec_Mul.l0];rw [if_pos (by rw [zs_length]; omega), if_pos (by omega), if_pos (by rw [zs_length]; omega), rx.out]
theorem Mul_ev (a y : Nat) (hy : y < 65536) (hy0 : y ≠ 0) (ha : (digs a).length ≤ 10000) : Evt (fun k => spec_Mul.f k (zs (digs a)) (zs (digs y))) (zs (digs (a * y))) := by
 have hyd : digs y = [y] := by rw [digs_pos hy0, Nat.mod_eq_of_lt hy, Nat.div_eq_of_lt hy, digs_zero]
 rw [hyd];have h := Mul_l0 (digs a) y (digs_lt a) hy ha _ 0 0 [] rfl (by omega) (by omega) rfl;rw [List.nil_append, List.nil_append, List.drop_zero, normL_digs _ (mulL_bd _ _ _ (digs_lt a) hy (by omega)), mulL_val, bval_digs, Nat.add_zero] at h;refine Evt.same h fun k => ?_
 simp only [spec_Mul.f];have hl : wrap64 (((zs (digs a)).length : Int) + ((zs [y]).length : Int)) = (((digs a).length + 1 : Nat) : Int) := by
  rw [zs_length, zs_length, wrap_in _ (by omega) (by simp; omega)]; simp
 rw [hl, if_pos (by omega), if_pos (by omega)];congr 1
 rw [show ((((digs a).length + 1 : Nat) : Int)).toNat = (digs a).length + 1 by omega];simp [zs, List.replicate_succ]
theorem u64_wr (n : Int) : IntKind.u64.wrap n = n % 18446744073709551616 := by kernel_rfl
theorem u64_bits : IntKind.u64.bits = 64 := rfl
theorem and_mask (a : Nat) (h : a < 18446744073709551616) : bits .and .u64 (a : Int) 65535 = ((a % 65536 : Nat) : Int) := by
 have := u64_and_nat a 65535 (by omega) (by omega);rw [show ((65535 : Nat) : Int) = 65535 from rfl] at this;rw [this, show (65535 : Nat) = 2 ^ 16 - 1 from rfl, Nat.and_two_pow_sub_one_eq_mod]
theorem shr_nat (w s : Nat) (hs : s ≤ 64) : shr .u64 (w : Int) (s : Int) = ((w / 2 ^ s : Nat) : Int) := by
 unfold shr;rw [u64_bits, show ((s : Int)).toNat = s by omega, Nat.min_eq_left hs];simp
theorem of_digit (w : Nat) (hw : w < 18446744073709551616) (j : Nat) (hj : j < 4) : wrap64 (bits .and .u64 (shr .u64 (w : Int) (wrap64 (16 * (j : Int)))) 65535) = ((w / 65536 ^ j % 65536 : Nat) : Int) := by
 rw [show wrap64 (16 * (j : Int)) = ((16 * j : Nat) : Int) by rw [wrap_in _ (by omega) (by omega)]; omega, shr_nat w _ (by omega), and_mask _ (Nat.lt_of_le_of_lt (Nat.div_le_self _ _) hw)];rw [show (2 : Nat) ^ (16 * j) = 65536 ^ j by rw [Nat.pow_mul]];rw [wrap_nat _ (by omega)]
def split4 (w : Nat) : List Nat := [w % 65536, w / 65536 % 65536, w / 4294967296 % 65536, w / 281474976710656 % 65536]
def four : List Nat → List Nat
 | [] => []
 | w :: ws => split4 w ++ four ws
theorem four_length : ∀ ws : List Nat, (four ws).length = 4 * ws.length
 | [] => rfl
 | w :: ws => by rw [four, List.length_append, four_length ws, List.length_cons]; simp [split4]; omega
theorem four_bd : ∀ ws : List Nat, Bd (four ws)
 | [] => by intro z hz; simp [four] at hz
 | w :: ws => by
  intro z hz;rw [four, List.mem_append] at hz;rcases hz with hz | hz;· simp only [split4, List.mem_cons, List.not_mem_nil, or_false] at hz;omega
  · exact four_bd ws z hz
theorem four_val : ∀ ws : List Nat, (∀ x ∈ ws, x < WB) → bval (four ws) = nval ws
 | [], _ => rfl
 | w :: ws, h => by
  have hw := h w (by simp);rw [WB_eq] at hw;rw [four, bval_append, four_val ws (fun x hx => h x (by simp [hx])), nval, WB_eq];rw [show (split4 w).length = 4 from rfl, show (65536 : Nat) ^ 4 = 18446744073709551616 from by decide];simp only [split4, bval];omega
theorem Of_word (ws o : List Nat) (w i : Nat) (hw : w < 18446744073709551616) (ho : o.length ≤ 100000) (hi : i ≤ 100000) (n : Int) {R : List Int}
 (h : Evt (fun k => spec_Of.l0 k (zs (o ++ split4 w)) (zs ws) n ((i + 1 : Nat) : Int)) R) : Evt (fun k => spec_Of.l1 k (zs o) (w : Int) 0 (zs ws) n (i : Int)) R := by
 have d0 := hid (of_digit w hw 0 (by omega)); have d1 := hid (of_digit w hw 1 (by omega)); have d2 := hid (of_digit w hw 2 (by omega)); have d3 := hid (of_digit w hw 3 (by omega));have hn := hid (wrap_succ i (by omega));have s0 := hid (show wrap64 (((0 : Nat) : Int) + 1) = ((1 : Nat) : Int) from wrap_succ 0 (by omega));have s1 := hid (show wrap64 (((1 : Nat) : Int) + 1) = ((2 : Nat) : Int) from wrap_succ 1 (by omega));have s2 := hid (show wrap64 (((2 : Nat) : Int) + 1) = ((3 : Nat) : Int) from wrap_succ 2 (by omega));have s3 := hid (show wrap64 (((3 : Nat) : Int) + 1) = ((4 : Nat) : Int) from wrap_succ 3 (by omega));have m0 := hid (show 0 ≤ wrap64 (16 * ((0 : Nat) : Int)) by rw [wrap_in _ (by omega) (by omega)]; omega);have m1 := hid (show 0 ≤ wrap64 (16 * ((1 : Nat) : Int)) by rw [wrap_in _ (by omega) (by omega)]; omega);have m2 := hid (show 0 ≤ wrap64 (16 * ((2 : Nat) : Int)) by rw [wrap_in _ (by omega) (by omega)]; omega);have m3 := hid (show 0 ≤ wrap64 (16 * ((3 : Nat) : Int)) by rw [wrap_in _ (by omega) (by omega)]; omega);refine Evt.step (h := fun k => spec_Of.l1 k (zs (o ++ [w / 65536 ^ 0 % 65536])) (w : Int) ((1 : Nat) : Int) (zs ws) n (i : Int)) ?_ fun k => ?_
 · refine Evt.step (h := fun k => spec_Of.l1 k (zs (o ++ [w / 65536 ^ 0 % 65536] ++ [w / 65536 ^ 1 % 65536])) (w : Int) ((2 : Nat) : Int) (zs ws) n (i : Int)) ?_ fun k => ?_
   · refine Evt.step (h := fun k => spec_Of.l1 k (zs (o ++ [w / 65536 ^ 0 % 65536] ++ [w / 65536 ^ 1 % 65536] ++ [w / 65536 ^ 2 % 65536])) (w : Int) ((3 : Nat) : Int) (zs ws) n (i : Int)) ?_ fun k => ?_
     · refine Evt.step (h := fun k => spec_Of.l1 k (zs (o ++ [w / 65536 ^ 0 % 65536] ++ [w / 65536 ^ 1 % 65536] ++ [w / 65536 ^ 2 % 65536] ++ [w / 65536 ^ 3 % 65536])) (w : Int) ((4 : Nat) : Int) (zs ws) n (i : Int)) ?_ fun k => ?_
       · refine Evt.step h fun k => ?_
         simp only [spec_Of.l1];rw [if_neg (by omega), hn.out];congr 1
         simp [split4]
       · simp only [spec_Of.l1];rw [if_pos (by omega), if_pos m3.out, if_pos (by rw [zs_length]; simp; omega), d3.out, s3.out, zs_one, ← zs_append]
     · simp only [spec_Of.l1];rw [if_pos (by omega), if_pos m2.out, if_pos (by rw [zs_length]; simp; omega), d2.out, s2.out, zs_one, ← zs_append]
   · simp only [spec_Of.l1];rw [if_pos (by omega), if_pos m1.out, if_pos (by rw [zs_length]; simp; omega), d1.out, s1.out, zs_one, ← zs_append]
 · show spec_Of.l1 (k + 1) (zs o) (w : Int) ((0 : Nat) : Int) (zs ws) n (i : Int) = _;simp only [spec_Of.l1];rw [if_pos (by omega), if_pos m0.out, if_pos (by rw [zs_length]; omega), d0.out, s0.out, zs_one, ← zs_append]
theorem Of_l0 (ws : List Nat) (hw : ∀ x ∈ ws, x < WB) (hl : ws.length ≤ 1000) : ∀ (d i : Nat) (o : List Nat), ws.length - i = d → i ≤ ws.length → o.length = 4 * i →
 Evt (fun k => spec_Of.l0 k (zs o) (zs ws) ((zs ws).length : Int) (i : Int)) (zs (normL (o ++ four (ws.drop i)))) := by
 intro d;induction d with
 | zero =>
  intro i o hd hi ho;have e1 : ws.drop i = [] := List.drop_of_length_le (by omega);rw [e1, four, List.append_nil];refine Evt.step (h := fun k => (spec_trim.f k (zs o)).bind fun t => some t) (Evt.bind (trim_ev _ (by omega)) (Evt.const _)) fun k => ?_
  simp only [spec_Of.l0];rw [if_neg (by rw [zs_length]; omega)]
 | succ d ih =>
  intro i o hd hi ho;obtain ⟨x, gx, dx⟩ := drop_get (xs := ws) (i := i) (by omega);have hxb := hw x (List.mem_of_getElem? gx);rw [WB_eq] at hxb;have rx := hid (rd_zs ws i x gx);have hI := ih (i + 1) (o ++ split4 x) (by omega) (by omega) (by simp [split4]; omega);rw [List.append_assoc] at hI;rw [dx, four];refine Evt.step (Of_word ws o x i hxb (by omega) (by omega) _ hI) fun k => ?_
  simp only [spec_Of.l0];rw [if_pos (by rw [zs_length]; omega), if_pos (by omega), if_pos (by rw [zs_length]; omega), rx.out]
theorem Of_ev (ws : List Nat) (hw : ∀ x ∈ ws, x < WB) (hl : ws.length ≤ 1000) : Evt (fun k => spec_Of.f k (zs ws)) (zs (digs (nval ws))) := by
 have h := Of_l0 ws hw hl _ 0 [] rfl (by omega) rfl;rw [List.nil_append, List.drop_zero, normL_digs _ (four_bd ws), four_val ws hw] at h;exact h
def pk : List Nat → List Nat
 | [] => []
 | [a] => [a]
 | [a, b] => [a + 65536 * b]
 | [a, b, c] => [a + 65536 * b + 4294967296 * c]
 | a :: b :: c :: d :: r => (a + 65536 * b + 4294967296 * c + 281474976710656 * d) :: pk r
theorem or_join (p j d : Nat) (hj : j < 4) (hp : p < 65536 ^ j) (hd : d < 65536) : bits .or .u64 (p : Int) (shl .u64 (IntKind.u64.wrap (d : Int)) (wrap64 (16 * (j : Int)))) = ((p + 65536 ^ j * d : Nat) : Int) := by
 have hb : (65536 : Nat) ^ j ≤ 65536 ^ 3 := Nat.pow_le_pow_right (by omega) (by omega);have hb3 : (65536 : Nat) ^ 3 = 281474976710656 := by decide
 have hmul : 65536 ^ j * d ≤ 281474976710656 * 65535 := Nat.mul_le_mul (by omega) (by omega);have hw1 : IntKind.u64.wrap (d : Int) = (d : Int) := by rw [u64_wr]; omega
 have hs : shl .u64 (d : Int) ((16 * j : Nat) : Int) = ((65536 ^ j * d : Nat) : Int) := by
  unfold shl;rw [u64_bits, show (((16 * j : Nat) : Int)).toNat = 16 * j by omega, Nat.min_eq_left (by omega)];have e : (d : Int) * 2 ^ (16 * j) = ((65536 ^ j * d : Nat) : Int) := by
   rw [show (2 : Int) ^ (16 * j) = ((2 ^ (16 * j) : Nat) : Int) by simp, show (2 : Nat) ^ (16 * j) = 65536 ^ j by rw [Nat.pow_mul]];rw [Nat.mul_comm]; simp
  rw [e, u64_wr];omega
 rw [hw1, show wrap64 (16 * (j : Int)) = ((16 * j : Nat) : Int) by rw [wrap_in _ (by omega) (by omega)]; omega, hs, u64_or_nat p _ (by omega) (by omega)];congr 1
 rw [show (65536 : Nat) ^ j = 2 ^ (16 * j) by rw [Nat.pow_mul]] at hp ⊢;rw [Nat.or_comm, ← Nat.two_pow_add_eq_or_of_lt hp, Nat.add_comm]
theorem tm4 (q j : Nat) (hj : j < 4) : Int.tmod ((4 * q + j : Nat) : Int) 4 = (j : Int) := by rw [Int.tmod_eq_emod_of_nonneg (by omega)]; omega
theorem td4 (q j : Nat) (hj : j < 4) (hq : q ≤ 100000) : wrap64 (Int.tdiv ((4 * q + j : Nat) : Int) 4) = (q : Int) := by rw [Int.tdiv_eq_ediv_of_nonneg (by omega), wrap_in _ (by omega) (by omega)]; omega
theorem Words_first (a o : List Nat) (q d : Nat) (n : Int) (hn : ((4 * q : Nat) : Int) < n) (hg : a[4 * q]? = some d) (hd : d < 65536) (ho : o.length = q) (hq : q ≤ 100000) (k : Nat) :
 spec_Words.l0 (k + 1) (zs o) (zs a) n ((4 * q : Nat) : Int) = spec_Words.l0 k (zs (o ++ [d])) (zs a) n ((4 * q + 1 : Nat) : Int) := by
 have hlt : 4 * q < a.length := (List.getElem?_eq_some_iff.1 hg).1;have rx := hid (rd_zs a (4 * q) d hg);have t1 := hid (show Int.tmod ((4 * q : Nat) : Int) 4 = 0 from tm4 q 0 (by omega));have t2 := hid (show wrap64 (Int.tdiv ((4 * q : Nat) : Int) 4) = (q : Int) from td4 q 0 (by omega) hq);have hs := hid (wrap_succ (4 * q) (by omega));have r0 := hid (show rd (zs (o ++ [0])) (q : Int) = ((0 : Nat) : Int) from rd_zs _ _ _ (by rw [← ho]; simp));have hj := hid (or_join 0 0 d (by omega) (by omega) hd);have m0 := hid (show 0 ≤ wrap64 (16 * (0 : Int)) by rw [wrap_in _ (by omega) (by omega)]; omega);have hz : (zs o ++ [0] : List Int) = zs (o ++ [0]) := by rw [zs_append]; rfl
 simp only [spec_Words.l0];rw [if_pos hn, if_pos (by omega), if_pos (by rw [zs_length]; omega), t1.out, if_pos rfl, if_pos (by rw [zs_length]; omega), Option.bind_some, hz, t2.out, if_pos (by omega), if_pos (by rw [zs_length]; simp; omega), if_pos m0.out, r0.out, rx.out,
  show bits .or .u64 ((0 : Nat) : Int) (shl .u64 (IntKind.u64.wrap (d : Int)) (wrap64 (16 * (0 : Int)))) = ((0 + 65536 ^ 0 * d : Nat) : Int) from hj.out, hs.out, zs_set]
 congr 2
 rw [show ((q : Int)).toNat = o.length by omega, List.set_append_right _ _ (Nat.le_refl _), Nat.sub_self];simp
theorem Words_next (a o : List Nat) (q j p d : Nat) (n : Int) (hj0 : 1 ≤ j) (hj4 : j < 4) (hn : ((4 * q + j : Nat) : Int) < n) (hg : a[4 * q + j]? = some d) (hp : p < 65536 ^ j) (hd : d < 65536) (ho : o.length = q) (hq : q ≤ 100000) (k : Nat) :
 spec_Words.l0 (k + 1) (zs (o ++ [p])) (zs a) n ((4 * q + j : Nat) : Int) = spec_Words.l0 k (zs (o ++ [p + 65536 ^ j * d])) (zs a) n ((4 * q + j + 1 : Nat) : Int) := by
 have hlt : 4 * q + j < a.length := (List.getElem?_eq_some_iff.1 hg).1;have rx := hid (rd_zs a (4 * q + j) d hg);have t1 := hid (tm4 q j hj4);have t2 := hid (td4 q j hj4 hq);have hs := hid (wrap_succ (4 * q + j) (by omega));have r0 := hid (show rd (zs (o ++ [p])) (q : Int) = (p : Int) from rd_zs _ _ _ (by rw [← ho]; simp));have hj := hid (or_join p j d hj4 hp hd);have m0 := hid (show 0 ≤ wrap64 (16 * (j : Int)) by rw [wrap_in _ (by omega) (by omega)]; omega);simp only [spec_Words.l0];rw [if_pos hn, if_pos (by omega), if_pos (by rw [zs_length]; omega), t1.out, if_neg (by omega), t2.out, if_pos (by omega), if_pos (by rw [zs_length]; simp; omega), if_pos m0.out, r0.out, rx.out, hj.out, hs.out, zs_set];congr 2
 rw [show ((q : Int)).toNat = o.length by omega, List.set_append_right _ _ (Nat.le_refl _), Nat.sub_self];simp
theorem Words_end (a o : List Nat) (i : Nat) (hi : a.length ≤ i) (k : Nat) : spec_Words.l0 (k + 1) (zs o) (zs a) ((zs a).length : Int) (i : Int) = some (zs o) := by
 simp only [spec_Words.l0];rw [if_neg (by rw [zs_length]; omega)]
theorem Words_stop (a o : List Nat) (i : Nat) (hi : a.length ≤ i) : Evt (fun k => spec_Words.l0 k (zs o) (zs a) ((zs a).length : Int) (i : Int)) (zs o) := Evt.of fun k => Words_end a o i hi k
theorem get_drop {a : List Nat} {i : Nat} {x : Nat} {r : List Nat} (h : a.drop i = x :: r) : a[i]? = some x ∧ a.drop (i + 1) = r ∧ i < a.length := by
 have hl : i < a.length := by
  rcases Nat.lt_or_ge i a.length with h1 | h1;· exact h1
  · rw [List.drop_of_length_le h1] at h; cases h
 rw [List.drop_eq_getElem_cons hl] at h;injection h with h1 h2;exact ⟨by rw [List.getElem?_eq_getElem hl, h1], h2, hl⟩
theorem Words_l0 (a : List Nat) (ha : Bd a) (hl : a.length ≤ 10000) : ∀ (d q : Nat) (o : List Nat), a.length - 4 * q ≤ 4 * d → o.length = q → q ≤ 10000 →
 Evt (fun k => spec_Words.l0 k (zs o) (zs a) ((zs a).length : Int) ((4 * q : Nat) : Int)) (zs (o ++ pk (a.drop (4 * q)))) := by
 intro d;induction d with
 | zero =>
  intro q o hd ho hq;rw [List.drop_of_length_le (by omega), pk, List.append_nil];exact Words_stop a o _ (by omega)
 | succ d ih =>
  intro q o hd ho hq;have hlz : ((zs a).length : Int) = (a.length : Int) := by rw [zs_length]
  have p0 : (65536 : Nat) ^ 1 = 65536 := rfl;have p2 : (65536 : Nat) ^ 2 = 4294967296 := by decide
  have p3 : (65536 : Nat) ^ 3 = 281474976710656 := by decide
  match hr : a.drop (4 * q) with
  | [] =>
   have := congrArg List.length hr;rw [List.length_drop, List.length_nil] at this;rw [pk, List.append_nil];exact Words_stop a o _ (by omega)
  | x0 :: r0 =>
   obtain ⟨g0, e0, l0⟩ := get_drop hr;have b0 := ha x0 (List.mem_of_getElem? g0);match r0, e0 with
   | [], e0 =>
    have := congrArg List.length e0;rw [List.length_drop, List.length_nil] at this;refine Evt.step (Words_stop a (o ++ [x0]) (4 * q + 1) (by omega)) fun k => ?_
    exact Words_first a o q x0 _ (by rw [hlz]; omega) g0 b0 ho (by omega) k
   | x1 :: r1, e0 =>
    obtain ⟨g1, e1, l1⟩ := get_drop e0;have b1 := ha x1 (List.mem_of_getElem? g1);have f0 := fun k => Words_first a o q x0 ((zs a).length : Int) (by rw [hlz]; omega) g0 b0 ho (by omega) k
    have f1 := fun k => Words_next a o q 1 x0 x1 ((zs a).length : Int) (by omega) (by omega) (by rw [hlz]; omega) g1 (by omega) b1 ho (by omega) k
    rw [p0] at f1;match r1, e1 with
    | [], e1 =>
     have := congrArg List.length e1;rw [List.length_drop, List.length_nil] at this;refine Evt.step (Evt.step (Words_stop a (o ++ [x0 + 65536 * x1]) (4 * q + 2) (by omega)) f1) f0
    | x2 :: r2, e1 =>
     obtain ⟨g2, e2, l2⟩ := get_drop e1;have b2 := ha x2 (List.mem_of_getElem? g2);have f2 := fun k => Words_next a o q 2 (x0 + 65536 * x1) x2 ((zs a).length : Int) (by omega) (by omega) (by rw [hlz]; omega) g2 (by omega) b2 ho (by omega) k
     rw [p2] at f2;match r2, e2 with
     | [], e2 =>
      have := congrArg List.length e2;rw [List.length_drop, List.length_nil] at this;refine Evt.step (Evt.step (Evt.step (Words_stop a (o ++ [x0 + 65536 * x1 + 4294967296 * x2]) (4 * q + 3) (by omega)) f2) f1) f0
     | x3 :: r3, e2 =>
      obtain ⟨g3, e3, l3⟩ := get_drop e2;have b3 := ha x3 (List.mem_of_getElem? g3);have f3 := fun k => Words_next a o q 3 (x0 + 65536 * x1 + 4294967296 * x2) x3 ((zs a).length : Int) (by omega) (by omega) (by rw [hlz]; omega) g3 (by omega) b3 ho (by omega) k
      rw [p3] at f3;have hI := ih (q + 1) (o ++ [x0 + 65536 * x1 + 4294967296 * x2 + 281474976710656 * x3]) (by omega) (by simp; omega) (by omega);rw [show 4 * (q + 1) = 4 * q + 3 + 1 by omega, e3, List.append_assoc, List.singleton_append] at hI;rw [pk];exact Evt.step (Evt.step (Evt.step (Evt.step hI f3) f2) f1) f0
theorem Words_ev (a : List Nat) (ha : Bd a) (hl : a.length ≤ 10000) : Evt (fun k => spec_Words.f k (zs a)) (zs (pk a)) := by
 have h := Words_l0 a ha hl a.length 0 [] (by omega) rfl (by omega);rw [List.nil_append, show 4 * 0 = 0 from rfl, List.drop_zero] at h;exact h
theorem pk_digs (n : Nat) : pk (digs n) = limbs n := by
 induction n using Nat.strongRecOn with
 | _ n ih =>
  by_cases h0 : n = 0;· subst h0; rw [digs_zero, limbs_zero]; rfl
  · rw [digs_pos h0, limbs_pos h0, WB_eq];by_cases h1 : n / 65536 = 0
    · rw [h1, digs_zero, show n / 18446744073709551616 = 0 by omega, limbs_zero, pk, show n % 65536 = n % 18446744073709551616 by omega]
    · rw [digs_pos h1];by_cases h2 : n / 65536 / 65536 = 0
      · rw [h2, digs_zero, show n / 18446744073709551616 = 0 by omega, limbs_zero, pk, show n % 65536 + 65536 * (n / 65536 % 65536) = n % 18446744073709551616 by omega]
      · rw [digs_pos h2];by_cases h3 : n / 65536 / 65536 / 65536 = 0
        · rw [h3, digs_zero, show n / 18446744073709551616 = 0 by omega, limbs_zero, pk, show n % 65536 + 65536 * (n / 65536 % 65536) + 4294967296 * (n / 65536 / 65536 % 65536) = n % 18446744073709551616 by omega]
        · rw [digs_pos h3, pk, show n / 65536 / 65536 / 65536 / 65536 = n / 18446744073709551616 by omega, ih (n / 18446744073709551616) (by omega),
           show n % 65536 + 65536 * (n / 65536 % 65536) + 4294967296 * (n / 65536 / 65536 % 65536) + 281474976710656 * (n / 65536 / 65536 / 65536 % 65536) = n % 18446744073709551616 by omega]
theorem HW_l0 (ws W : List Nat) (hl : ws.length = W.length) (hn : W.length ≤ 10000) : ∀ (d i : Nat), W.length - i = d → i ≤ W.length →
 Evt (fun k => spec_HasWords.l0 k (zs ws) (zs W) ((zs W).length : Int) (i : Int)) (decide (ws.drop i = W.drop i)) := by
 intro d;induction d with
 | zero =>
  intro i hd hi;rw [show ws.drop i = [] from List.drop_of_length_le (by omega), show W.drop i = [] from List.drop_of_length_le (by omega)];refine Evt.of fun k => ?_
  simp only [spec_HasWords.l0];rw [if_neg (by rw [zs_length]; omega)];simp
 | succ d ih =>
  intro i hd hi;obtain ⟨x, gx, dx⟩ := drop_get (xs := ws) (i := i) (by omega);obtain ⟨y, gy, dy⟩ := drop_get (xs := W) (i := i) (by omega);have rx := hid (rd_zs ws i x gx);have ry := hid (rd_zs W i y gy);have hs := hid (wrap_succ i (by omega));have hI := ih (i + 1) (by omega) (by omega);rw [dx, dy];by_cases e : x = y
  · subst e;rw [show decide (x :: ws.drop (i + 1) = x :: W.drop (i + 1)) = decide (ws.drop (i + 1) = W.drop (i + 1)) by simp];refine Evt.step hI fun k => ?_
    simp only [spec_HasWords.l0];rw [if_pos (by rw [zs_length]; omega), if_pos (by omega), if_pos (by rw [zs_length]; omega), if_pos (by rw [zs_length]; omega), rx.out, ry.out, if_pos rfl, hs.out]
  · rw [show decide (x :: ws.drop (i + 1) = y :: W.drop (i + 1)) = false by simp [e]];refine Evt.of fun k => ?_
    simp only [spec_HasWords.l0];rw [if_pos (by rw [zs_length]; omega), if_pos (by omega), if_pos (by rw [zs_length]; omega), if_pos (by rw [zs_length]; omega), rx.out, ry.out, if_neg (by omega)]
theorem HasWords_ev (ws : List Nat) (n : Nat) (hd : (digs n).length ≤ 10000) (hn : (limbs n).length ≤ 10000) : Evt (fun k => spec_HasWords.f k (zs ws) (zs (digs n))) (decide (ws = limbs n)) := by
 have hW := Words_ev (digs n) (digs_lt n) hd;rw [pk_digs] at hW;have h2 : Evt (fun k => (if ((zs ws).length : Int) = ((zs (limbs n)).length : Int) then (spec_HasWords.l0 k (zs ws) (zs (limbs n)) ((zs (limbs n)).length : Int) 0) else (some false))) (decide (ws = limbs n)) := by
  by_cases hl : ws.length = (limbs n).length
  · have h := HW_l0 ws (limbs n) hl hn _ 0 rfl (by omega);rw [List.drop_zero, List.drop_zero] at h;refine Evt.same h fun k => ?_
    rw [if_pos (by rw [zs_length, zs_length]; omega)];rfl
  · rw [show decide (ws = limbs n) = false by simpa using fun e : ws = limbs n => hl (by rw [e])];refine Evt.same (Evt.const false) fun k => ?_
    rw [if_neg (by rw [zs_length, zs_length]; omega)]
 exact Evt.bind (g := fun k t340 => (if ((zs ws).length : Int) = (t340.length : Int) then (spec_HasWords.l0 k (zs ws) t340 (t340.length : Int) 0) else (some false))) hW h2
theorem Cmp_same (a : List Nat) (hl : a.length ≤ 10000) : ∀ i : Nat, i ≤ a.length → Evt (fun k => spec_Cmp.l0 k (zs a) (zs a) ((i : Int) - 1)) 0 := by
 intro i;induction i with
 | zero =>
  intro hi;refine Evt.of fun k => ?_
  simp only [spec_Cmp.l0];rw [if_neg (by omega)]
 | succ i ih =>
  intro hi;obtain ⟨x, gx, dx⟩ := drop_get (xs := a) (i := i) (by omega);have rx := hid (rd_zs a i x gx);have hs := hid (show wrap64 ((i : Int) - 1) = (i : Int) - 1 from wrap_in _ (by omega) (by omega));rw [show (((i + 1 : Nat) : Int)) - 1 = (i : Int) by omega];refine Evt.step (ih (by omega)) fun k => ?_
  simp only [spec_Cmp.l0];rw [if_pos (by omega), if_pos (by omega), if_pos (by rw [zs_length]; omega), if_pos (by rw [zs_length]; omega), rx.out, if_neg (by omega), if_neg (by omega), hs.out]
theorem Cmp_ev_same (a : List Nat) (hl : a.length ≤ 10000) : Evt (fun k => spec_Cmp.f k (zs a) (zs a)) 0 := by
 have h := Cmp_same a hl a.length (by omega);refine Evt.same h fun k => ?_
 simp only [spec_Cmp.f];rw [if_neg (by omega), if_neg (by omega), zs_length, wrap_in _ (by omega) (by omega)]
def CN (w : World) (A : Option Addr) (n c : Nat) (xs : List Nat) : Prop := n = xs.length ∧ n ≤ c ∧ Kd.C (Kd.int .i64) w A n (zs xs)
theorem CN.fr {w w' : World} {A : Option Addr} {n c : Nat} {xs : List Nat} (h : CN w A n c xs) (hF : Fr NoB w w') : CN w' A n c xs := ⟨h.1, h.2.1, Kd.C_below h.2.2 hF.below⟩
def CB (w : World) (B : Nat) (A : Option Addr) (n c : Nat) (xs : List Nat) : Prop := n = xs.length ∧ n ≤ c ∧ Kd.F (Kd.int .i64) w (fun k => B ≤ k) A n (zs xs)
theorem CB.cn {w : World} {B : Nat} {A : Option Addr} {n c : Nat} {xs : List Nat} (h : CB w B A n c xs) : CN w A n c xs := ⟨h.1, h.2.1, Kd.F_now h.2.2⟩
theorem CB.fr {w w' : World} {B : Nat} {A : Option Addr} {n c : Nat} {xs : List Nat} (h : CB w B A n c xs) (hF : Fr NoB w w') : CB w' B A n c xs := ⟨h.1, h.2.1, Kd.F_below h.2.2 hF.below⟩
theorem CB.lower {w : World} {B B' : Nat} {A : Option Addr} {n c : Nat} {xs : List Nat} (h : CB w B A n c xs) (hB : B' ≤ B) : CB w B' A n c xs := ⟨h.1, h.2.1, Kd.F_mono h.2.2 (fun k hk => Nat.le_trans hB hk)⟩
theorem CB.far {w : World} {B : Nat} {A : Option Addr} {n c : Nat} {xs : List Nat} (h : CB w B A n c xs) {p : Addr} (hp : p.block < B) (u : Value) : CB (w.setCell p u) B A n c xs := ⟨h.1, h.2.1, Kd.F_far h.2.2 (fun k hk => by omega) u⟩
theorem CB.nil (w : World) (B : Nat) : CB w B none 0 0 [] := ⟨rfl, Nat.le_refl _, Kd.F_nil _ _ _⟩
def CW (w : World) (A : Option Addr) (n c : Nat) (xs : List Nat) : Prop := n = xs.length ∧ n ≤ c ∧ Kd.C (Kd.int .u64) w A n (zs xs)
theorem CW.fr {w w' : World} {A : Option Addr} {n c : Nat} {xs : List Nat} (h : CW w A n c xs) (hF : Fr NoB w w') : CW w' A n c xs := ⟨h.1, h.2.1, Kd.C_below h.2.2 hF.below⟩
theorem nums_zs (xs : List Nat) : nums .u64 (zs xs) = u64s xs := by simp [nums, zs, u64s]
theorem CW_of_own {w : World} {B n k c : Nat} {A : Option Addr} {xs : List Nat} (h : w.ownsRow B 36 1 (.slice A n c) k (u64s xs)) : CW w A n c xs := by
 have hk : k = xs.length := by have := h.1; rw [u64s_length] at this; omega
 have hn : n = k ∧ n ≤ c := by
  rcases h.2 with ⟨e, h0⟩ | ⟨g, cap, cur, e, _, _, h1, _⟩
  · injection e with _ e2 e3;omega
  · injection e with _ e2 e3;exact ⟨e2, by omega⟩
 obtain ⟨rfl, hc⟩ := hn;rw [← nums_zs] at h;obtain ⟨A', c', e, hr⟩ := own_reads h;injection e with e1 e2 e3;subst e1;exact ⟨hk, hc, Kd.C_of_reads (d := 0) (readsInt_of.1 hr)⟩
def ListRes (W : World) (xs : List Nat) (e : Ending) (w' : World) : Prop := ∃ A n c, e = .returned (.slice A n c) ∧ CB w' W.heap.size A n c xs ∧ Fr NoB W w'
theorem CN_of_V {w : World} {base B : Nat} {v : Value} {xs : List Nat} (h : Kd.V (Kd.int .i64) 3 w base (fun k => B ≤ k) v (zs xs)) : ∃ A n c, v = .slice A n c ∧ CB w B A n c xs := by
 obtain ⟨A, c, e⟩ := Kd.V_slice h;subst e;obtain ⟨h1, h2, h3⟩ := Kd.V_reads' h;exact ⟨A, _, c, rfl, zs_length xs, h2, Kd.V_F h⟩
theorem smallC (n : Nat) (hn : n < 4611686018427387904) (W : World) : Calls Tryz.prog 21 #[.int .i64 (n : Int)] W (ListRes W (digs n)) := by
 obtain ⟨k, hk⟩ := (Small_ev n hn).get;refine (spec_Small.calls k n _ W hk).mono ?_;rintro e w' ⟨v, rfl, hR, hB⟩;have hV : Kd.V (Kd.int .i64) 3 w' 0 (fun k => W.heap.size ≤ k) v (zs (digs n)) := Kd.V_mono (Kd.R_V (Kd.R_bound hR)) (fun k hk => hk.2.1);obtain ⟨A', n', c', rfl, hCN⟩ := CN_of_V hV;exact ⟨A', n', c', rfl, hCN, Fr.of_below hB _⟩
theorem mulC (a y : Nat) (hy : y < 65536) (hy0 : y ≠ 0) (ha : (digs a).length ≤ 10000) (A B : Option Addr) (n c m d : Nat) (W : World) (h1 : CN W A n c (digs a)) (h2 : CN W B m d (digs y)) :
 Calls Tryz.prog 20 #[.slice A n c, .slice B m d] W (ListRes W (digs (a * y))) := by
 obtain ⟨k, hk⟩ := (Mul_ev a y hy hy0 ha).get;obtain ⟨e1, hc1, hr1⟩ := h1;obtain ⟨e2, hc2, hr2⟩ := h2;rw [← zs_length] at e1 e2;subst e1 e2;refine (spec_Mul.calls k A c _ B d _ _ W hr1 hc1 hr2 hc2 hk).mono ?_;rintro e w' ⟨v, rfl, hV, hB⟩;obtain ⟨A', n', c', rfl, hCN⟩ := CN_of_V hV;exact ⟨A', n', c', rfl, hCN, Fr.of_below hB _⟩
theorem addC (a b : Nat) (ha : (digs a).length ≤ 10000) (hb : (digs b).length ≤ 10000) (A B : Option Addr) (n c m d : Nat) (W : World) (h1 : CN W A n c (digs a)) (h2 : CN W B m d (digs b)) :
 Calls Tryz.prog 19 #[.slice A n c, .slice B m d] W (ListRes W (digs (a + b))) := by
 obtain ⟨k, hk⟩ := (Add_ev a b ha hb).get;obtain ⟨e1, hc1, hr1⟩ := h1;obtain ⟨e2, hc2, hr2⟩ := h2;rw [← zs_length] at e1 e2;subst e1 e2;refine (spec_Add.calls k A c _ B d _ _ W hr1 hc1 hr2 hc2 hk).mono ?_;rintro e w' ⟨v, rfl, hV, hB⟩;obtain ⟨A', n', c', rfl, hCN⟩ := CN_of_V hV;exact ⟨A', n', c', rfl, hCN, Fr.of_below hB _⟩
theorem digs_len_ws (ws : List Nat) (hw : ∀ x ∈ ws, x < WB) : (digs (nval ws)).length ≤ 4 * ws.length := by
 rw [← four_val ws hw, ← normL_digs _ (four_bd ws), ← four_length];exact normL_length _
end Go.Proofs.YteokhhepnoelhaaGreatDoor
