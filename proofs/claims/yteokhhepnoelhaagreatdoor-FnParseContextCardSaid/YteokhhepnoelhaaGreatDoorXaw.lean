/-
  PLAIN: rounding a number to so many decimal figures: the quotient, the half, whether one is added.
-/
import Derived.Test.YteokhhepnoelhaaGreatDoorXav
import Derived.Test.YteokhhepnoelhaaGreatDoorXad
import Derived.Test.YteokhhepnoelhaaGreatDoorXan
import Derived.Test.YteokhhepnoelhaaGreatDoorXai
import Derived.Deep.LoopGhost
set_option linter.unusedVariables false
set_option linter.unusedSimpArgs false
namespace Go.Proofs.YteokhhepnoelhaaGreatDoor
open Go.Lib
def addB (mode : Nat) (neg : Bool) (q : Nat) (half : Int) : Bool :=
 match mode with
 | 1 => decide (0 ≤ half)
 | 2 => decide (0 < half) || (decide (half = 0) && decide (q % 2 = 1))
 | 3 => !neg
 | 4 => neg
 | 5 => decide (0 < half)
 | 6 => true
 | 7 => decide (q % 5 = 0)
 | _ => false
def cutV (mode : Nat) (neg : Bool) (V k : Nat) : Nat :=
 if V % 10 ^ k = 0 then V / 10 ^ k else if addB mode neg (V / 10 ^ k) (cmpZ (V % 10 ^ k + V % 10 ^ k) (10 ^ k)) then V / 10 ^ k + 1 else V / 10 ^ k
def rndV (mode : Nat) (neg : Bool) (V p : Nat) : Nat :=
 if nDigits V ≤ p then V else if p < nDigits (cutV mode neg V (nDigits V - p)) then cutV mode neg V (nDigits V - p) / 10 else cutV mode neg V (nDigits V - p)
def rndE (mode : Nat) (neg : Bool) (V p : Nat) : Nat :=
 if nDigits V ≤ p then 0 else if p < nDigits (cutV mode neg V (nDigits V - p)) then nDigits V - p + 1 else nDigits V - p
theorem ten_pos (k : Nat) : 0 < 10 ^ k := Nat.pow_pos (by omega)
theorem ten_pred {k : Nat} (hk : 1 ≤ k) : 10 ^ k = 10 * 10 ^ (k - 1) := by
 obtain ⟨j, rfl⟩ : ∃ j, k = j + 1 := ⟨k - 1, by omega⟩
 rw [Nat.pow_succ, Nat.add_sub_cancel]; omega
theorem nDigits_div {V p k : Nat} (hp : 1 ≤ p) (h : nDigits V = p + k) : nDigits (V / 10 ^ k) = p := by
 by_cases h0 : V = 0
 · subst h0;rw [nDigits_small (by omega)] at h;have hk : k = 0 := by omega
   have hp1 : p = 1 := by omega
   subst hk hp1;rw [Nat.pow_zero, Nat.div_one, nDigits_small (by omega)]
 · have h1 := pow_le_nDigits V V (Nat.le_refl _) h0;have h2 := lt_pow_nDigits V;rw [h] at h1 h2;obtain ⟨m, rfl⟩ : ∃ m, p = m + 1 := ⟨p - 1, by omega⟩
   refine nDigits_unique m _ ?_ ?_
   · rw [Nat.le_div_iff_mul_le (ten_pos k), ← Nat.pow_add];have e : m + 1 + k - 1 = m + k := by omega
     rw [e] at h1; exact h1
   · rw [Nat.div_lt_iff_lt_mul (ten_pos k), ← Nat.pow_add];exact h2
theorem nDigits_mono {a b : Nat} (h : a ≤ b) : nDigits a ≤ nDigits b := by
 by_cases h0 : a = 0;· subst h0; rw [nDigits_small (by omega)]; exact nDigits_pos b
 · exact nDigits_le h0 (Nat.lt_of_le_of_lt h (lt_pow_nDigits b))
theorem nDigits_succ_le (q : Nat) : nDigits (q + 1) ≤ nDigits q + 1 := by
 refine nDigits_le (by omega) ?_;have h := lt_pow_nDigits q;rw [Nat.pow_succ];have := ten_pos (nDigits q);omega
theorem cutV_le (mode : Nat) (neg : Bool) (V k : Nat) : cutV mode neg V k ≤ V / 10 ^ k + 1 := by
 unfold cutV;split
 · omega
 · split <;> omega
theorem le_cutV (mode : Nat) (neg : Bool) (V k : Nat) : V / 10 ^ k ≤ cutV mode neg V k := by
 unfold cutV;split
 · omega
 · split <;> omega
theorem nDigits_cutV (mode : Nat) (neg : Bool) (V p : Nat) (hp : 1 ≤ p) (h : p < nDigits V) :
 nDigits (cutV mode neg V (nDigits V - p)) = p ∨ (nDigits (cutV mode neg V (nDigits V - p)) = p + 1) := by
 have hd := nDigits_div (V := V) (p := p) (k := nDigits V - p) hp (by omega);have h1 := nDigits_mono (le_cutV mode neg V (nDigits V - p));have h2 := nDigits_mono (cutV_le mode neg V (nDigits V - p));have h3 := nDigits_succ_le (V / 10 ^ (nDigits V - p));omega
theorem half_one {r : Nat} : cmpZ r 5 = cmpZ (r + r) (10 ^ 1) := by
 unfold cmpZ;rw [Nat.pow_one];by_cases h : r < 5;· rw [if_pos h, if_pos (show r + r < 10 by omega)]
 · rw [if_neg h, if_neg (show ¬ r + r < 10 by omega)];by_cases h2 : 5 < r
   · rw [if_pos h2, if_pos (show 10 < r + r by omega)]
   · rw [if_neg h2, if_neg (show ¬ 10 < r + r by omega)]
theorem half_less {r k : Nat} (hk : 1 ≤ k) (h : nDigits r < k) : cmpZ (r + r) (10 ^ k) = -1 := by
 have h1 := lt_pow_nDigits r;have h2 : 10 ^ nDigits r ≤ 10 ^ (k - 1) := Nat.pow_le_pow_right (by omega) (by omega);rw [ten_pred hk];unfold cmpZ;rw [if_pos (by omega)]
theorem half_same {r k : Nat} (hk : 1 ≤ k) : cmpZ r (5 * 10 ^ (k - 1)) = cmpZ (r + r) (10 ^ k) := by
 rw [ten_pred hk];generalize 10 ^ (k - 1) = t;unfold cmpZ;by_cases h : r < 5 * t;· rw [if_pos h, if_pos (show r + r < 10 * t by omega)]
 · rw [if_neg h, if_neg (show ¬ r + r < 10 * t by omega)];by_cases h2 : 5 * t < r
   · rw [if_pos h2, if_pos (show 10 * t < r + r by omega)]
   · rw [if_neg h2, if_neg (show ¬ 10 * t < r + r by omega)]
theorem nDigits_rest {r k : Nat} (h0 : r ≠ 0) (h : r < 10 ^ k) : nDigits r ≤ k := nDigits_le h0 h
theorem cmpZ_cases (a b : Nat) : cmpZ a b = -1 ∨ cmpZ a b = 0 ∨ cmpZ a b = 1 := by
 unfold cmpZ;by_cases h : a < b;· rw [if_pos h]; exact .inl rfl
 · rw [if_neg h];by_cases h2 : b < a
   · rw [if_pos h2]; exact .inr (.inr rfl)
   · rw [if_neg h2]; exact .inr (.inl rfl)
theorem addB_last (mode : Nat) (neg : Bool) (q : Nat) (half : Int) : addB mode neg (q % 10) half = addB mode neg q half := by
 have e2 : q % 10 % 2 = q % 2 := by omega
 have e5 : q % 10 % 5 = q % 5 := by omega
 unfold addB;split <;> simp only [e2, e5]
theorem rndE_le (mode : Nat) (neg : Bool) (V p : Nat) : rndE mode neg V p ≤ nDigits V + 1 := by
 unfold rndE;split
 · omega
 · split <;> omega
theorem rndV_le (mode : Nat) (neg : Bool) (V p : Nat) : rndV mode neg V p ≤ V + 1 := by
 have h := cutV_le mode neg V (nDigits V - p);have h2 : V / 10 ^ (nDigits V - p) ≤ V := Nat.div_le_self _ _;unfold rndV;split
 · omega
 · split
   · have := Nat.div_le_self (cutV mode neg V (nDigits V - p)) 10;omega
   · omega
end Go.Proofs.YteokhhepnoelhaaGreatDoor
namespace Go.Proofs.YteokhhepnoelhaaGreatDoor
open Go.RowKit Go.Proofs.YteokhhepnoelhaaGreatDoorW.PrintWords PFnParse PFnParseContext
theorem fr_drawn {w w' : World} (h : Drawn0 w w') : Fr NoB w w' := by
 obtain ⟨⟨n, rfl⟩⟩ := h;exact (Fr.refl _ _).drewN n
theorem byDigitC (V d : Nat) (hd : 0 < d) (hd' : d < 65536) (hl : (digs V).length ≤ 10000) (A : Option Addr) (n c : Nat) (W : World) (h1 : CN W A n c (digs V)) :
 Calls Tryz.prog 66 #[.slice A n c, .int .i64 (d : Int)] W fun e w' => ∃ A' n' c', e = .returned (.tuple #[.slice A' n' c', .int .i64 ((V % d : Nat) : Int)]) ∧ CB w' W.heap.size A' n' c' (digs (V / d)) ∧ Fr NoB W w' := by
 obtain ⟨k, hk⟩ := (byDigit_ev V d hd hd' hl).get;obtain ⟨e1, hc1, hr1⟩ := h1;rw [← zs_length] at e1;subst e1;refine (spec_byDigit.calls k A c _ _ _ _ W hr1 hc1 hk).mono ?_;rintro e w' ⟨v, rfl, hV, hB⟩;obtain ⟨A', n', c', rfl, hCN⟩ := CN_of_V hV;exact ⟨A', n', c', rfl, hCN, Fr.of_below hB _⟩
theorem figuresC (V : Nat) (hl : (digs V).length ≤ 10000) (hn : Lib.nDigits V ≤ 10000) (A : Option Addr) (n c : Nat) (W : World) (h1 : CN W A n c (digs V)) :
 Calls Tryz.prog 44 #[.slice A n c] W fun e w' => e = .returned (.int .i64 ((Lib.nDigits V : Nat) : Int)) ∧ Fr NoB W w' := by
 obtain ⟨k, hk⟩ := (Figures_ev V hl hn).get;obtain ⟨e1, hc1, hr1⟩ := h1;rw [← zs_length] at e1;subst e1;refine (spec_Figures.calls k A c _ _ W hr1 hc1 hk).mono ?_;rintro e w' ⟨rfl, hB⟩;exact ⟨rfl, Fr.of_below hB _⟩
theorem powerC (n : Nat) (hn : n ≤ 100) (W : World) : Calls Tryz.prog 64 #[.int .i64 10, .int .i64 (n : Int)] W (ListRes W (digs (10 ^ n))) := by
 obtain ⟨k, hk⟩ := (Power_ev n hn).get;refine (spec_Power.calls k 10 n _ W hk).mono ?_;rintro e w' ⟨v, rfl, hV, hB⟩;obtain ⟨A', n', c', rfl, hCN⟩ := CN_of_V hV;exact ⟨A', n', c', rfl, hCN, Fr.of_below hB _⟩
theorem lenC (V : Nat) (hl : (digs V).length ≤ 10000) (A : Option Addr) (n c : Nat) (W : World) (h1 : CN W A n c (digs V)) :
 Calls Tryz.prog 106 #[.slice A n c] W fun e w' => e = .returned (.int .i64 ((blen V : Nat) : Int)) ∧ Fr NoB W w' := by
 obtain ⟨k, hk⟩ := (Len_ev V hl).get;obtain ⟨e1, hc1, hr1⟩ := h1;rw [← zs_length] at e1;subst e1;refine (spec_Len.calls k A c _ _ W hr1 hc1 hk).mono ?_;rintro e w' ⟨rfl, hB⟩;exact ⟨rfl, fr_drawn hB⟩
theorem shlC (V m : Nat) (h0 : V ≠ 0) (hl : (digs V).length ≤ 9000) (hm : m ≤ 1000) (A : Option Addr) (n c : Nat) (W : World) (h1 : CN W A n c (digs V)) :
 Calls Tryz.prog 107 #[.slice A n c, .int .i64 (m : Int)] W (ListRes W (digs (V * 2 ^ m))) := by
 obtain ⟨k, hk⟩ := (Shl_ev V m hl hm).get;obtain ⟨e1, hc1, hr1⟩ := h1;rw [← zs_length] at e1;subst e1;have hne : zs (digs V) ≠ [] := by
  intro h;have h2 := congrArg List.length h;rw [zs_length] at h2;exact h0 (digs_nil.1 (List.length_eq_zero_iff.1 h2))
 refine (shl_calls k A c _ _ _ W hr1 hc1 hne hk).mono ?_;rintro e w' ⟨v, rfl, hV, hB⟩;obtain ⟨A', n', c', rfl, hCN⟩ := CN_of_V hV;exact ⟨A', n', c', rfl, hCN, Fr.of_below hB _⟩
theorem subC (a b : Nat) (h : b ≤ a) (ha : (digs a).length ≤ 10000) (A B : Option Addr) (n c m d : Nat) (W : World) (h1 : CN W A n c (digs a)) (h2 : CN W B m d (digs b)) :
 Calls Tryz.prog 108 #[.slice A n c, .slice B m d] W (ListRes W (digs (a - b))) := by
 obtain ⟨k, hk⟩ := (Sub_ev a b h ha).get;obtain ⟨e1, hc1, hr1⟩ := h1;obtain ⟨e2, hc2, hr2⟩ := h2;rw [← zs_length] at e1 e2;subst e1 e2;refine (spec_Sub.calls k A c _ B d _ _ W hr1 hc1 hr2 hc2 hk).mono ?_;rintro e w' ⟨v, rfl, hV, hB⟩;obtain ⟨A', n', c', rfl, hCN⟩ := CN_of_V hV;exact ⟨A', n', c', rfl, hCN, Fr.of_below hB _⟩
theorem cmpC (a b : Nat) (ha : (digs a).length ≤ 10000) (hb : (digs b).length ≤ 10000) (A B : Option Addr) (n c m d : Nat) (W : World) (h1 : CN W A n c (digs a)) (h2 : CN W B m d (digs b)) :
 Calls Tryz.prog 28 #[.slice A n c, .slice B m d] W fun e w' => e = .returned (.int .i64 (cmpZ a b)) ∧ Fr NoB W w' := by
 obtain ⟨k, hk⟩ := (Cmp_ev a b ha hb).get;obtain ⟨e1, hc1, hr1⟩ := h1;obtain ⟨e2, hc2, hr2⟩ := h2;rw [← zs_length] at e1 e2;subst e1 e2;refine (spec_Cmp.calls k A c _ B d _ _ W hr1 hc1 hr2 hc2 hk).mono ?_;rintro e w' ⟨rfl, hB⟩;exact ⟨rfl, fr_drawn hB⟩
theorem awayC (neg : Bool) (q : Nat) (half : Int) (mode : Nat) (hm : mode < 8) (W : World) :
 Calls Tryz.prog 67 #[.bool neg, .int .i64 ((q % 10 : Nat) : Int), .int .i64 half, .int .i64 (mode : Int)] W fun e w' => e = .returned (.bool (addB mode neg q half)) ∧ Fr NoB W w' := by
 have hk : spec_away.f neg ((q % 10 : Nat) : Int) half (mode : Int) = some (addB mode neg q half) := by
  rw [← addB_last];have m2 : Int.tmod ((q % 10 : Nat) : Int) 2 = ((q % 10 % 2 : Nat) : Int) := tmod_by _ 2;have m5 : Int.tmod ((q % 10 : Nat) : Int) 5 = ((q % 10 % 5 : Nat) : Int) := tmod_by _ 5;generalize q % 10 = r at *
  unfold spec_away.f;rw [m2, m5];have hc : mode = 0 ∨ mode = 1 ∨ mode = 2 ∨ mode = 3 ∨ mode = 4 ∨ mode = 5 ∨ mode = 6 ∨ mode = 7 := by omega
  have b2 : (((r % 2 : Nat) : Int) == 1) = decide (r % 2 = 1) := by
   rw [Bool.eq_iff_iff, beq_iff_eq, decide_eq_true_iff]; omega
  have b5 : (((r % 5 : Nat) : Int) == 0) = decide (r % 5 = 0) := by
   rw [Bool.eq_iff_iff, beq_iff_eq, decide_eq_true_iff]; omega
  rw [b2, b5];rcases hc with rfl | rfl | rfl | rfl | rfl | rfl | rfl | rfl <;> simp [addB];by_cases g : half > 0;· simp [g]
  · by_cases g0 : half = 0 <;> simp [g, g0]
 refine (spec_away.calls neg _ half _ _ W hk).mono ?_;rintro e w' ⟨rfl, hB⟩;exact ⟨rfl, fr_drawn hB⟩
theorem flagsC (r i : Bool) (W : World) : Calls Tryz.prog 32 #[.bool r, .bool i] W fun e w' => e = .returned (.int .i64 ((if r then 16 else 0) + (if i then 4 else 0))) ∧ Fr NoB W w' := by
 refine (laws_flags.calls r i ((if r then 16 else 0) + (if i then 4 else 0)) W (by cases r <;> cases i <;> rfl)).mono ?_;rintro e w' ⟨rfl, hB⟩;exact ⟨rfl, fr_drawn hB⟩
theorem wideC (p m : Nat) (hp : p < 256) (hm : m < 256) (W : World) : Calls Tryz.prog 12 #[.int .u8 (p : Int), .int .u8 (m : Int)] W fun e w' => e = .returned (.agg #[.int .u64 ((1 + p % 60 : Nat) : Int), .int .i64 100000, .int .i64 (-100000), .int .i64 ((m % 8 : Nat) : Int)]) ∧ Fr NoB W w' := by
 have hk : laws_wide.f (p : Int) (m : Int) = some (((1 + p % 60 : Nat) : Int), 100000, -100000, ((m % 8 : Nat) : Int)) := by
  unfold laws_wide.f;rw [show Int.tmod (p : Int) 60 = ((p % 60 : Nat) : Int) from tmod_by p 60, show Int.tmod (m : Int) 8 = ((m % 8 : Nat) : Int) from tmod_by m 8, wrap_nat _ (by omega)];rw [u64_wr, u64_wr];rw [show (1 + ((p % 60 : Nat) : Int) % 18446744073709551616) % 18446744073709551616 = ((1 + p % 60 : Nat) : Int) by omega]
 refine (laws_wide.calls _ _ _ _ _ _ W hk).mono ?_;rintro e w' ⟨rfl, hB⟩;exact ⟨rfl, Fr.of_below hB _⟩
end Go.Proofs.YteokhhepnoelhaaGreatDoor
namespace Go.Proofs.YteokhhepnoelhaaGreatDoor
open Go.RowKit Go.Proofs.YteokhhepnoelhaaGreatDoorW.PrintWords Go.Proofs.YteokhhepnoelhaaGreatDoorW.PrintLast PFnParse PFnParseContext
theorem digs_pow2 (i : Nat) : digs (2 ^ i) = List.replicate (i / 16) 0 ++ [2 ^ (i % 16)] := by
 have hp : 0 < 2 ^ (i % 16) := Nat.pow_pos (by omega);have hlt : 2 ^ (i % 16) < 65536 := by
  have : 2 ^ (i % 16) < 2 ^ 16 := Nat.pow_lt_pow_right (by omega) (Nat.mod_lt _ (by omega));omega
 have hb : Bd (List.replicate (i / 16) 0 ++ [2 ^ (i % 16)]) := by
  intro z hz;rcases List.mem_append.1 hz with hz | hz;· have := List.eq_of_mem_replicate hz; omega
  · have := List.mem_singleton.1 hz; omega
 have h := normL_digs _ hb;rw [normL_snoc _ _ (by omega), bval_replicate, bval, bval, Nat.mul_zero, Nat.add_zero, pow_16, ← Nat.pow_add, Nat.div_add_mod] at h;exact h.symm
set_option maxHeartbeats 8000000 in
set_option maxRecDepth 100000 in
theorem bit_calls (i ji2 ji5 ji7 ji8 : Int) (y427 y430 : List Int) (w : World)
 (hji8w : IntKind.i64.wrap (Int.tdiv i 16) = ji8) (hji2w : IntKind.i64.wrap (ji8 + 1) = ji2) (hji5 : Int.tmod i 16 = ji5)
 (c0 : 0 ≤ ji5) (c1 : ji5 ≤ 15) (c3 : 0 ≤ ji2) (c4 : ji2.toNat ≤ 35184372088832) (c9 : 0 ≤ ji8) (hji7u : IntKind.i64.wrap (2 ^ min ji5.toNat 64) = ji7) (hji7v : IntKind.i64.wrap (2 ^ ji5.toNat) = ji7)
 (hy427 : y427 = List.replicate ji2.toNat 0) (c10 : ji8 < (y427.length : Int)) (hy430 : y430 = y427.set ji8.toNat ji7) :
 Calls Tryz.prog 109 #[.int .i64 i] w fun e w' => ∃ v0_ : Value, e = .returned v0_ ∧ Kd.V (Kd.int .i64) 3 w' w.heap.size (fun k_ => w.heap.size ≤ k_) v0_ y430 ∧ Below w.heap.size w w' := by
 have HB := Aside0.mk (Below.refl w.heap.size w);have Ny427 := Aside0.mk hy427;clear hy427;have Ny430 := Aside0.mk hy430;clear hy430;have hji7_ : IntKind.i64.wrap (1 * 2 ^ min ji5.toNat 64) = ji7 := by rw [Int.one_mul]; exact hji7u
 have hji7z : IntKind.i64.wrap (1 * 2 ^ ji5.toNat) = ji7 := by rw [Int.one_mul]; exact hji7v
 have c3b0 := eq_true c3;have c3b1 : decide (0 ≤ ji2) = true := decide_eq_true c3;have c4b1 : decide (ji2.toNat ≤ 35184372088832) = true := decide_eq_true c4;have c6b0 := eq_true c0;have c6b1 : decide (0 ≤ ji5) = true := decide_eq_true c0;have c9b0 : decide (0 ≤ ji8) = true := decide_eq_true c9;have c10b0 : decide (ji8 < (y427.length : Int)) = true := decide_eq_true c10;clear c3 c4 c9 c10;go_enter Tryz.func109, Tryz.ntmps109;go_wp2_with (first | ((with_reducible refine gate_dst (N := 7) rfl ?_); refine Kd.R_make (Kd.int .i64) _ 3 rfl (N := 7) rfl 23 _ _ rfl ji2 rfl rfl Tryz.underlying23 (.int .i64 0) 8 PFnParse.info3 rfl (by decide) (by omega) 0 (ok := fun _ => True) (okp := fun _ => True) rfl (fun _ hk => hk) trivial (of_decide_eq_true asq) (Nat.le_trans (Nat.mul_le_mul_right _ (of_decide_eq_true asq : ji2.toNat ≤ 35184372088832)) (by omega)) (Below.refl _ _) (Nat.le_refl _) ?_; intro v428 w12 ho13 hb hg_ hnew_; clear hg_ hnew_; (first | rw [← Ny427.out] at ho13 | (simp only [Int.reduceToNat] at ho13; rw [← Ny427.out] at ho13)); have n0_ := Aside0.mk (Kd.R_mono (ok' := fun k_ => w.heap.size ≤ k_) (Kd.R_lower (Kd.R_newM (M := fun k_ => (w.heap.size ≤ k_)) ho13 (below_size HBq) (fun k_ h_ => h_)) (below_size HBq)) (fun _ hk => hk.1)); have n1_ := Aside0.mk (below_step HBq hb); clear HB; have HO429 := n0_; have HB := n1_; clear n0_ n1_; clear hb ho13; have p11 : 0 ≤ ((ji8) : Int) := of_decide_eq_true asq; have q11 : ((ji8) : Int) < ((y427.length : Int) : Int) := of_decide_eq_true asq; obtain ⟨go11, co11, eo11, gb11, gl11, cl11, HG11⟩ := Kd.R_form HO429.out (by omega); (first | cases eo11 | (injection eo11 with ea_ en_ ec_; (first | subst ea_ | (injection ea_ with ea_; subst ea_)); subst ec_; clear en_)); have GB11 := Aside0.mk gb11; have GG11 := Aside0.mk HG11; clear gb11 gl11 HG11; obtain ⟨hx11_0, hf11_0⟩ := Kd.R_celln 0 HO429.out ((ji8) : Int) p11 q11; replace p11 := eq_true p11; replace q11 := eq_true q11; obtain ⟨hy14_, hz14_⟩ := Kd.R_celln 0 HO429.out ((ji8) : Int) (of_decide_eq_true asq) (of_decide_eq_true asq); have HP14 := Kd.R_putg HO429.out ((ji8) : Int) ji7) | ((with_reducible refine gate_store (t := 3) (p := 14) rfl ?_); refine store_event (t := 3) (p := 14) (v := ?vo_w15) (w1 := (w12.setCell ⟨go11, ((ji8) : Int).toNat, none⟩ (.int .i64 ji7))) ?hg ?ho ?hn ?hr ?_; (case ho => rfl); (case hg => rfl); (case hn => rfl); (case hr => first | (go_simp; done) | (go_simp; rfl)); intro w15 hw; have hg : w12.grownBy w15 (some go11) := (by rw [hw]; exact HP14.2); have hp_ : Kd.R (Kd.int .i64) 3 w15 w.heap.size (fun k_ => w.heap.size ≤ k_) (.slice (some ⟨go11, 0, none⟩) y427.length co11) y430 := (by rw [hw, Ny430.out]; exact HP14.1); clear HP14; have n0_ := Aside0.mk (hp_); have n1_ := Aside0.mk ((by rw [hw]; exact below_set (HB.out) GB11.out : Below w.heap.size w w15)); clear HO429; clear HB; have HO429 := n0_; have HB := n1_; clear n0_ n1_; clear hg hw hp_));go_ret;exact ⟨_, by first | rfl | (simp [*, errW_none, errW_some] <;> rfl), Kd.R_V (RAq HO429.out), HBq⟩
theorem bitC (i : Nat) (hi : i ≤ 1000) (W : World) : Calls Tryz.prog 109 #[.int .i64 (i : Int)] W (ListRes W (digs (2 ^ i))) := by
 have hp : 0 < 2 ^ (i % 16) := Nat.pow_pos (by omega);have hlt : 2 ^ (i % 16) < 65536 := by
  have : 2 ^ (i % 16) < 2 ^ 16 := Nat.pow_lt_pow_right (by omega) (Nat.mod_lt _ (by omega));omega
 have hc : ((2 : Int) ^ (i % 16)) = ((2 ^ (i % 16) : Nat) : Int) := by norm_cast
 have hm : min (i % 16) 64 = i % 16 := by omega
 refine (bit_calls (i : Int) ((i / 16 + 1 : Nat) : Int) ((i % 16 : Nat) : Int) ((2 ^ (i % 16) : Nat) : Int) ((i / 16 : Nat) : Int) (zs (List.replicate (i / 16 + 1) 0)) (zs (digs (2 ^ i))) W ?_ ?_ (tmod_by i 16) (by omega) (by omega) (by omega) (by omega) (by omega) ?_ ?_ ?_ ?_ ?_).mono ?_;· rw [show Int.tdiv (i : Int) 16 = ((i / 16 : Nat) : Int) from tdiv_by i 16];exact (i64_w _).trans (wrap_nat _ (by omega))
 · exact (i64_w _).trans (by rw [wrap_in _ (by omega) (by omega)]; omega)
 · rw [Int.toNat_natCast, hm, hc];exact (i64_w _).trans (wrap_nat _ (by omega))
 · rw [Int.toNat_natCast, hc];exact (i64_w _).trans (wrap_nat _ (by omega))
 · rw [Int.toNat_natCast, zs_replicate]
 · rw [zs_length, List.length_replicate]; omega
 · rw [Int.toNat_natCast, zs_set, digs_pow2];congr 1
   rw [List.replicate_succ', List.set_append_right _ _ (by simp)];simp
 · rintro e w' ⟨v, rfl, hV, hB⟩;obtain ⟨A', n', c', rfl, hCN⟩ := CN_of_V hV;exact ⟨A', n', c', rfl, hCN, Fr.of_below hB _⟩
end Go.Proofs.YteokhhepnoelhaaGreatDoor
namespace Go.Proofs.YteokhhepnoelhaaGreatDoor
open Go.RowKit Go.Proofs.YteokhhepnoelhaaGreatDoorW.PrintWords
theorem dm_step (V b j : Nat) (hb : 0 < b) :
 (b * 2 ^ j ≤ V % (b * 2 ^ (j + 1)) → V % (b * 2 ^ (j + 1)) - b * 2 ^ j = V % (b * 2 ^ j) ∧ V / (b * 2 ^ (j + 1)) * 2 ^ (j + 1) + 2 ^ j = V / (b * 2 ^ j) * 2 ^ j) ∧
 (V % (b * 2 ^ (j + 1)) < b * 2 ^ j → V % (b * 2 ^ (j + 1)) = V % (b * 2 ^ j) ∧ V / (b * 2 ^ (j + 1)) * 2 ^ (j + 1) = V / (b * 2 ^ j) * 2 ^ j) := by
 have hD : 0 < b * 2 ^ j := Nat.mul_pos hb (Nat.pow_pos (by omega));have e2 : b * 2 ^ (j + 1) = b * 2 ^ j * 2 := by rw [Nat.pow_succ, Nat.mul_assoc]
 rw [e2, Nat.pow_succ];generalize b * 2 ^ j = D at *
 generalize 2 ^ j = P;have h1 := Nat.div_add_mod V (D * 2);have h2 := Nat.mod_lt V (show 0 < D * 2 by omega);generalize V % (D * 2) = a at *
 generalize V / (D * 2) = Q at *
 have h3 : D * 2 * Q = D * (2 * Q) := by rw [Nat.mul_assoc]
 constructor;· intro h;have u := (Nat.div_mod_unique (a := V) (b := D) (c := a - D) (d := 2 * Q + 1) hD).2 ⟨by rw [Nat.mul_add, Nat.mul_one]; omega, by omega⟩;rw [u.1, u.2];refine ⟨rfl, ?_⟩;rw [Nat.add_mul, Nat.one_mul, Nat.mul_comm P 2, ← Nat.mul_assoc, Nat.mul_comm Q 2]
 · intro h;have u := (Nat.div_mod_unique (a := V) (b := D) (c := a) (d := 2 * Q) hD).2 ⟨by omega, by omega⟩;rw [u.1, u.2];refine ⟨rfl, ?_⟩;rw [Nat.mul_comm P 2, ← Nat.mul_assoc, Nat.mul_comm Q 2]
def DivModRes (W : World) (V b : Nat) (e : Ending) (w' : World) : Prop :=
 ∃ A n c A' n' c', e = .returned (.tuple #[.slice A n c, .slice A' n' c']) ∧ CB w' W.heap.size A n c (digs (V / b)) ∧ CN w' A' n' c' (digs (V % b)) ∧ Fr NoB W w'
theorem len_30 {V : Nat} (h : V < 65536 ^ 30) : (digs V).length ≤ 30 := digs_length_le 30 _ h
theorem len_shl {b j : Nat} (hb : b < 65536 ^ 30) (hj : j ≤ 480) : (digs (b * 2 ^ j)).length ≤ 60 := digs_length_le 60 _ (by
 have h1 : 2 ^ j ≤ 65536 ^ 30 := Nat.le_trans (Nat.pow_le_pow_right (by omega) (show j ≤ 16 * 30 by omega)) (Nat.le_of_eq (pow_16 30).symm);have h2 : b * 2 ^ j ≤ b * 65536 ^ 30 := Nat.mul_le_mul_left _ h1;have h3 : b * 65536 ^ 30 < 65536 ^ 30 * 65536 ^ 30 := Nat.mul_lt_mul_of_pos_right hb (Nat.pow_pos (by omega));rw [← Nat.pow_add] at h3;exact Nat.lt_of_le_of_lt h2 h3)
theorem blen_16 (k : Nat) {V : Nat} (h : V < 65536 ^ k) : blen V ≤ 16 * k := by
 by_cases h0 : V = 0;· subst h0; rw [show blen 0 = 0 by decide]; exact Nat.zero_le _
 · obtain ⟨h1, _, h3⟩ := blen_bounds h0;refine Nat.le_of_not_lt fun h4 => ?_
   have h5 : 65536 ^ k ≤ 2 ^ (blen V - 1) := by
    rw [pow_16 k];exact Nat.pow_le_pow_right (by omega) (by omega)
   exact Nat.lt_irrefl _ (Nat.lt_of_lt_of_le h (Nat.le_trans h5 h1))
theorem blen_480 {V : Nat} (h : V < 65536 ^ 30) : blen V ≤ 480 := blen_16 30 h
theorem lt_two_blen (V : Nat) : V < 2 ^ blen V := by
 by_cases h0 : V = 0;· subst h0; exact Nat.pow_pos (by omega)
 · exact (blen_bounds h0).2.1
theorem fr_tr {a b c : World} (h : Fr NoB a b) (k : Fr NoB b c) : Fr NoB a c := h.trans k (fun _ _ h => h)
set_option maxRecDepth 100000 in
set_option maxHeartbeats 4000000 in
theorem divMod_one (V y : Nat) (hy : 0 < y) (hy' : y < 65536) (hl : (digs V).length ≤ 10000) (A B : Option Addr) (n c d : Nat) (w : World) (h1 : CN w A n c (digs V)) (h2 : CN w B 1 d (digs y)) :
 Calls Tryz.prog 65 #[.slice A n c, .slice B 1 d] w (DivModRes w V y) := by
 have hdy : digs y = [y] := by
  have h := normL_digs [y] (by intro z hz; have := List.mem_singleton.1 hz; omega);have h2 := normL_snoc [] y (by omega);rw [List.nil_append] at h2;rw [h2] at h;simp only [bval, Nat.mul_zero, Nat.add_zero] at h;exact h.symm
 have hr : Kd.C (Kd.int .i64) w B 1 (zs [y]) := by rw [← hdy]; exact h2.2.2
 obtain ⟨ad, e0, hx0⟩ := Kd.at_int (xs := zs [y]) (by exact hr) 0 (by omega) (by simp [zs]);cases e0;have hx : w.cell? ad = some (.int .i64 (y : Int)) := by simpa [rd, zs, Addr.add] using hx0
 have S66 := hid (byDigitC V y hy hy' hl A n c w h1);have S21 := hid (fun W' => smallC (V % y) (by have := Nat.mod_lt V hy; omega) W');clear h1 h2 hr;go_enter Tryz.func65, Tryz.ntmps65;go_wp2_with (first | (go_at_call 66; refine S66.out.mono ?_; rintro e w1 ⟨A1, n1, c1, rfl, hC1, hF1⟩; have C1 := hid hC1; have F1 := hid hF1; clear hC1 hF1) | (go_at_call 21; refine (S21.out _).mono ?_; rintro e w2 ⟨A2, n2, c2, rfl, hC2, hF2⟩; have C2 := hid hC2; have F2 := hid hF2; clear hC2 hF2));go_ret2;exact ⟨_, _, _, _, _, _, rfl, C1.out.fr F2.out, C2.out.cn, fr_tr F1.out F2.out⟩
def dmN (V b : Nat) : Nat := if blen b ≤ blen V then blen V - blen b + 1 else 0
def DmAt (W : World) (V b m : Nat) (A1 : Option Addr) (n1 c1 : Nat) (A2 : Option Addr) (n2 c2 : Nat) (i : Int) (wr : World) : Prop :=
 CN wr A1 n1 c1 (digs (V % (b * 2 ^ m))) ∧ CB wr W.heap.size A2 n2 c2 (digs (V / (b * 2 ^ m) * 2 ^ m)) ∧ (i = (m : Int) - 1 ∨ (m = 0 ∧ i < 0)) ∧ m ≤ 481 ∧ Fr NoB W wr
theorem DmAt.start (V b : Nat) (hV : V < 65536 ^ 30) (hb0 : 0 < b) (hb : b < 65536 ^ 30) {W W' : World} {A A2 : Option Addr} {n c n2 c2 : Nat} (h1 : CN W A n c (digs V)) (hF : Fr NoB W W') (h2 : CB W' W.heap.size A2 n2 c2 []) :
 DmAt W V b (dmN V b) A n c A2 n2 c2 (((blen V : Nat) : Int) - ((blen b : Nat) : Int)) W' := by
 have k1 := blen_480 hV;have k2 := blen_480 hb;have p1 : V < 2 ^ blen V := lt_two_blen V;have p2 : 2 ^ (blen b - 1) ≤ b := (blen_bounds (by omega)).1;unfold dmN;by_cases hle : blen b ≤ blen V
 · rw [if_pos hle];have h3 : V < b * 2 ^ (blen V - blen b + 1) := by
    refine Nat.lt_of_lt_of_le p1 (Nat.le_trans ?_ (Nat.mul_le_mul_right _ p2));rw [← Nat.pow_add];exact Nat.pow_le_pow_right (by omega) (by omega)
   refine ⟨?_, ?_, .inl (by omega), by omega, hF⟩;· rw [Nat.mod_eq_of_lt h3]; exact h1.fr hF
   · rw [Nat.div_eq_of_lt h3, Nat.zero_mul, digs_zero]; exact h2
 · rw [if_neg hle];have h3 : V < b * 2 ^ 0 := by
    rw [Nat.pow_zero, Nat.mul_one];exact Nat.lt_of_lt_of_le p1 (Nat.le_trans (Nat.pow_le_pow_right (by omega) (by omega)) p2)
   refine ⟨?_, ?_, .inr ⟨rfl, by omega⟩, by omega, hF⟩;· rw [Nat.mod_eq_of_lt h3]; exact h1.fr hF
   · rw [Nat.div_eq_of_lt h3, Nat.zero_mul, digs_zero]; exact h2
theorem cmpZ_le {a b : Nat} (h : a ≤ b) : cmpZ a b ≤ 0 := by
 unfold cmpZ;by_cases h2 : a < b;· rw [if_pos h2]; omega
 · rw [if_neg h2, if_neg (by omega)]; omega
theorem cmpZ_gt {a b : Nat} (h : b < a) : 0 < cmpZ a b := by
 unfold cmpZ;rw [if_neg (by omega), if_pos h];omega
theorem DmAt.yes {W wr : World} {V b j : Nat} (hb : 0 < b) (h : b * 2 ^ j ≤ V % (b * 2 ^ (j + 1))) {A1 A2 : Option Addr} {n1 c1 n2 c2 : Nat}
 (h1 : CN wr A1 n1 c1 (digs (V % (b * 2 ^ (j + 1)) - b * 2 ^ j))) (h2 : CB wr W.heap.size A2 n2 c2 (digs (V / (b * 2 ^ (j + 1)) * 2 ^ (j + 1) + 2 ^ j))) (hj : j ≤ 480) (hF : Fr NoB W wr) :
 DmAt W V b j A1 n1 c1 A2 n2 c2 ((j : Int) - 1) wr := by
 obtain ⟨e1, e2⟩ := (dm_step V b j hb).1 h;rw [e1] at h1;rw [e2] at h2;exact ⟨h1, h2, .inl rfl, by omega, hF⟩
theorem DmAt.no {W wr : World} {V b j : Nat} (hb : 0 < b) (h : V % (b * 2 ^ (j + 1)) < b * 2 ^ j) {A1 A2 : Option Addr} {n1 c1 n2 c2 : Nat}
 (h1 : CN wr A1 n1 c1 (digs (V % (b * 2 ^ (j + 1))))) (h2 : CB wr W.heap.size A2 n2 c2 (digs (V / (b * 2 ^ (j + 1)) * 2 ^ (j + 1)))) (hj : j ≤ 480) (hF : Fr NoB W wr) :
 DmAt W V b j A1 n1 c1 A2 n2 c2 ((j : Int) - 1) wr := by
 obtain ⟨e1, e2⟩ := (dm_step V b j hb).2 h;rw [e1] at h1;rw [e2] at h2;exact ⟨h1, h2, .inl rfl, by omega, hF⟩
theorem DmAt.done {W wr : World} {V b : Nat} {A1 A2 : Option Addr} {n1 c1 n2 c2 : Nat} {i : Int} (h : DmAt W V b 0 A1 n1 c1 A2 n2 c2 i wr) : DivModRes W V b (.returned (.tuple #[.slice A2 n2 c2, .slice A1 n1 c1])) wr := by
 obtain ⟨h1, h2, _, _, hF⟩ := h;rw [Nat.pow_zero, Nat.mul_one] at h1 h2;rw [Nat.mul_one] at h2;exact ⟨_, _, _, _, _, _, rfl, h2, h1, hF⟩
theorem mod_lim {V : Nat} (h : V < 65536 ^ 30) (d : Nat) : (digs (V % d)).length ≤ 10000 := Nat.le_trans (len_30 (Nat.lt_of_le_of_lt (Nat.mod_le _ _) h)) (by omega)
theorem quo_lim {V b j : Nat} (h : V < 65536 ^ 30) (hb : 0 < b) : (digs (V / (b * 2 ^ j) * 2 ^ j)).length ≤ 10000 := by
 refine Nat.le_trans (len_30 (Nat.lt_of_le_of_lt (Nat.le_trans ?_ (Nat.div_mul_le_self V (b * 2 ^ j))) h)) (by omega);refine Nat.mul_le_mul_left _ ?_;exact Nat.le_mul_of_pos_left _ hb
theorem bit_lim {j : Nat} (h : j ≤ 480) : (digs (2 ^ j)).length ≤ 10000 := by
 rw [digs_pow2, List.length_append, List.length_replicate, List.length_singleton];omega
theorem CB.empty (w : World) (B : Nat) (A : Option Addr) : CB w B A 0 0 [] := ⟨rfl, Nat.le_refl _, fun W' _ => ⟨rfl, by simp, fun h => absurd h (Nat.lt_irrefl 0)⟩⟩
structure DmC (V b : Nat) (A B : Option Addr) (n c m d : Nat) (w : World) : Prop where
 la : ∀ W', Fr NoB w W' → Calls Tryz.prog 106 #[.slice A n c] W' fun e w' => e = .returned (.int .i64 ((blen V : Nat) : Int)) ∧ Fr NoB W' w'
 lb : ∀ W', Fr NoB w W' → Calls Tryz.prog 106 #[.slice B m d] W' fun e w' => e = .returned (.int .i64 ((blen b : Nat) : Int)) ∧ Fr NoB W' w'
 st : ∀ W' A2 n2 c2, Fr NoB w W' → CB W' w.heap.size A2 n2 c2 [] → DmAt w V b (dmN V b) A n c A2 n2 c2 (((blen V : Nat) : Int) - ((blen b : Nat) : Int)) W'
 sh : ∀ j : Nat, j ≤ 480 → ∀ W', Fr NoB w W' → Calls Tryz.prog 107 #[.slice B m d, .int .i64 (j : Int)] W' (ListRes W' (digs (b * 2 ^ j)))
 cm : ∀ j : Nat, j ≤ 480 → ∀ A0 B0 n0 c0 m0 d0 W', CN W' A0 n0 c0 (digs (b * 2 ^ j)) → CN W' B0 m0 d0 (digs (V % (b * 2 ^ (j + 1)))) → Calls Tryz.prog 28 #[.slice A0 n0 c0, .slice B0 m0 d0] W' fun e w' => e = .returned (.int .i64 (cmpZ (b * 2 ^ j) (V % (b * 2 ^ (j + 1))))) ∧ Fr NoB W' w'
 su : ∀ j : Nat, j ≤ 480 → b * 2 ^ j ≤ V % (b * 2 ^ (j + 1)) → ∀ A0 B0 n0 c0 m0 d0 W', CN W' A0 n0 c0 (digs (V % (b * 2 ^ (j + 1)))) → CN W' B0 m0 d0 (digs (b * 2 ^ j)) → Calls Tryz.prog 108 #[.slice A0 n0 c0, .slice B0 m0 d0] W' (ListRes W' (digs (V % (b * 2 ^ (j + 1)) - b * 2 ^ j)))
 ad : ∀ j : Nat, j ≤ 480 → ∀ A0 B0 n0 c0 m0 d0 W', CN W' A0 n0 c0 (digs (V / (b * 2 ^ (j + 1)) * 2 ^ (j + 1))) → CN W' B0 m0 d0 (digs (2 ^ j)) → Calls Tryz.prog 19 #[.slice A0 n0 c0, .slice B0 m0 d0] W' (ListRes W' (digs (V / (b * 2 ^ (j + 1)) * 2 ^ (j + 1) + 2 ^ j)))
theorem dmC (V b : Nat) (hV : V < 65536 ^ 30) (hb0 : 0 < b) (hb : b < 65536 ^ 30) (A B : Option Addr) (n c m d : Nat) (w : World) (h1 : CN w A n c (digs V)) (h2 : CN w B m d (digs b)) : DmC V b A B n c m d w := by
 have l30V := Nat.le_trans (len_30 hV) (show 30 ≤ 10000 by omega);have l30b := Nat.le_trans (len_30 hb) (show 30 ≤ 10000 by omega);have l30c := Nat.le_trans (len_30 hb) (show 30 ≤ 9000 by omega);refine ⟨?_, ?_, ?_, ?_, ?_, ?_, ?_⟩;· exact fun W' hF => lenC V l30V A n c W' (h1.fr hF)
 · exact fun W' hF => lenC b l30b B m d W' (h2.fr hF)
 · exact fun W' A2 n2 c2 hF hC => DmAt.start V b hV hb0 hb h1 hF hC
 · exact fun j hj W' hF => shlC b j (Nat.pos_iff_ne_zero.1 hb0) l30c (Nat.le_trans hj (show 480 ≤ 1000 by omega)) B m d W' (h2.fr hF)
 · exact fun j hj A0 B0 n0 c0 m0 d0 W' k1 k2 => cmpC (b * 2 ^ j) (V % (b * 2 ^ (j + 1))) (Nat.le_trans (len_shl hb hj) (show 60 ≤ 10000 by omega)) (mod_lim hV _) A0 B0 n0 c0 m0 d0 W' k1 k2
 · exact fun j hj h A0 B0 n0 c0 m0 d0 W' k1 k2 => subC (V % (b * 2 ^ (j + 1))) (b * 2 ^ j) h (mod_lim hV _) A0 B0 n0 c0 m0 d0 W' k1 k2
 · exact fun j hj A0 B0 n0 c0 m0 d0 W' k1 k2 => addC (V / (b * 2 ^ (j + 1)) * 2 ^ (j + 1)) (2 ^ j) (quo_lim hV hb0) (bit_lim hj) A0 B0 n0 c0 m0 d0 W' k1 k2
set_option maxRecDepth 100000 in
set_option maxHeartbeats 4000000 in
theorem divMod_walk (V b : Nat) (hb0 : 0 < b) (kV : blen V ≤ 480) (kb : blen b ≤ 480) (A B : Option Addr) (n c m d : Nat) (hm : 1 < m) (w : World) (H : DmC V b A B n c m d w) :
 Calls Tryz.prog 65 #[.slice A n c, .slice B m d] w (DivModRes w V b) := by
 have hm1 : ((m : Int) == 1) = false := beq_eq_false_iff_ne.2 (by omega);have H' := hid H;have HB0 := hid hb0;have wsub : wrap64 (((blen V : Nat) : Int) - ((blen b : Nat) : Int)) = ((blen V : Nat) : Int) - ((blen b : Nat) : Int) := wrap_in _ (by omega) (by omega);have LA := hid H.la;have LB := hid H.lb;have ST := hid H.st;have F0 := hid (show Fr NoB w (w.alloc (.cells #[] 3)) from (Fr.refl _ _).alloc _);clear H hb0;generalize blen V = bV at *
 generalize blen b = bb at *
 go_enter Tryz.func65, Tryz.ntmps65;go_wp2_with fail;generalize (w.alloc (.cells #[] 3)) = W at *
 refine (LA.out W F0.out).mono ?_;rintro e w1 ⟨rfl, hF1⟩;have F1 := hid (fr_tr F0.out hF1);clear hF1;go_wp2_with fail;refine (LB.out w1 F1.out).mono ?_;rintro e w2 ⟨rfl, hF2⟩;have F2 := hid (fr_tr F1.out hF2);clear hF2;have S0 := hid (ST.out w2 (some ⟨w.heap.size, 0, none⟩) 0 0 F2.out (CB.empty _ _ _));clear LA LB ST F0 F1 F2;go_wp2_with fail;go_loopg [0, 8, 9] (dmN V b) (fun k va vq vi wr => ∃ (A1 A2 : Option Addr) (n1 c1 n2 c2 : Nat) (i : Int), va = .slice A1 n1 c1 ∧ vq = .slice A2 n2 c2 ∧ vi = .int .i64 i ∧ Hid (DmAt w V b k A1 n1 c1 A2 n2 c2 i wr));case atStart => exact ⟨A, _, n, c, _, _, _, rfl, rfl, rfl, S0⟩
 case round =>
  obtain ⟨A1, A2, n1, c1, n2, c2, i, rfl, rfl, rfl, hD⟩ := hrel;by_cases h0 : gk = 0
  · subst h0;have hneg : i < 0 := by rcases hD.out.2.2.1 with h | h <;> omega
    go_wp2_with fail;go_ret2;exact hD.out.done
  · obtain ⟨j, rfl⟩ : ∃ j, gk = j + 1 := ⟨gk - 1, by omega⟩
    obtain rfl : i = (j : Int) := by rcases hD.out.2.2.1 with h | h <;> omega
    have hj : j ≤ 480 := by have := hD.out.2.2.2.1; omega
    obtain ⟨hA, hQ, _, _, hF⟩ := hD.out;have HA := hid hA; have HQ := hid hQ; have HF := hid hF;clear hA hQ hF hD h0;have SH := hid (H'.out.sh j hj wr HF.out);go_wp2_with fail;refine SH.out.mono ?_;rintro e w3 ⟨A3, n3, c3, rfl, hC3, hF3⟩;have C3 := hid hC3.cn; have F3 := hid (fr_tr HF.out hF3); have HA3 := hid (HA.out.fr hF3); have HQ3 := hid (HQ.out.fr hF3);clear hC3 hF3 SH HA HQ HF;have CM := hid (H'.out.cm j hj A3 A1 n3 c3 n1 c1 w3 C3.out HA3.out);by_cases hle : b * 2 ^ j ≤ V % (b * 2 ^ (j + 1))
    · have hcz := cmpZ_le hle;have HLE := hid hle;clear hle;generalize cmpZ (b * 2 ^ j) (V % (b * 2 ^ (j + 1))) = cz at *
      go_wp2_with fail;refine CM.out.mono ?_;rintro e w4 ⟨rfl, hF4⟩;have C4 := hid (C3.out.fr hF4); have F4 := hid (fr_tr F3.out hF4); have HA4 := hid (HA3.out.fr hF4); have HQ4 := hid (HQ3.out.fr hF4);clear hF4 CM C3 F3 HA3 HQ3;have SU := hid (H'.out.su j hj HLE.out A1 A3 n1 c1 n3 c3 w4 HA4.out C4.out);go_wp2_with fail;refine SU.out.mono ?_;rintro e w5 ⟨A5, n5, c5, rfl, hC5, hF5⟩;have C5 := hid hC5.cn; have F5 := hid (fr_tr F4.out hF5); have HQ5 := hid (HQ4.out.fr hF5);clear hC5 hF5 SU C4 F4 HA4 HQ4;have BI := hid (bitC j (by omega) w5);go_wp2_with fail;refine BI.out.mono ?_;rintro e w6 ⟨A6, n6, c6, rfl, hC6, hF6⟩;have C6 := hid hC6.cn; have F6 := hid (fr_tr F5.out hF6); have HQ6 := hid (HQ5.out.fr hF6); have C56 := hid (C5.out.fr hF6);clear hC6 hF6 BI C5 F5 HQ5;have AD := hid (H'.out.ad j hj A2 A6 n2 c2 n6 c6 w6 HQ6.out.cn C6.out);go_wp2_with fail;refine AD.out.mono ?_;rintro e w7 ⟨A7, n7, c7, rfl, hC7, hF7⟩;have C7 := hid (hC7.lower (B' := w.heap.size) F6.out.size); have F7 := hid (fr_tr F6.out hF7); have C57 := hid (C56.out.fr hF7);clear hC7 hF7 AD;have NX := hid (DmAt.yes HB0.out HLE.out C57.out C7.out hj F7.out);go_wp2_with fail;go_roundg j;case measure => omega
      case rel => exact ⟨A5, A7, n5, c5, n7, c7, _, rfl, rfl, rfl, NX⟩
    · have hlt : V % (b * 2 ^ (j + 1)) < b * 2 ^ j := by omega
      have hcz := cmpZ_gt hlt;have HLT := hid hlt;clear hle hlt;generalize cmpZ (b * 2 ^ j) (V % (b * 2 ^ (j + 1))) = cz at *
      have hcz' : ¬ cz ≤ 0 := by omega
      go_wp2_with fail;refine CM.out.mono ?_;rintro e w4 ⟨rfl, hF4⟩;have NX := hid (DmAt.no HB0.out HLT.out (HA3.out.fr hF4) (HQ3.out.fr hF4) hj (fr_tr F3.out hF4));clear hF4 CM;go_wp2_with fail;go_roundg j;case measure => omega
      case rel => exact ⟨A1, A2, n1, c1, n2, c2, _, rfl, rfl, rfl, NX⟩
theorem divMod_many (V b : Nat) (hV : V < 65536 ^ 30) (hb : b < 65536 ^ 30) (A B : Option Addr) (n c m d : Nat) (hm : 1 < m) (w : World) (h1 : CN w A n c (digs V)) (h2 : CN w B m d (digs b)) :
 Calls Tryz.prog 65 #[.slice A n c, .slice B m d] w (DivModRes w V b) := by
 have hb0 : 0 < b := by
  refine Nat.pos_of_ne_zero fun h => ?_
  have := h2.1;rw [h, digs_zero] at this;simp at this;omega
 exact divMod_walk V b hb0 (blen_480 hV) (blen_480 hb) A B n c m d hm w (dmC V b hV hb0 hb A B n c m d w h1 h2)
theorem divModC (V b : Nat) (hV : V < 65536 ^ 30) (hb0 : 0 < b) (hb : b < 65536 ^ 30) (A B : Option Addr) (n c m d : Nat) (w : World) (h1 : CN w A n c (digs V)) (h2 : CN w B m d (digs b)) :
 Calls Tryz.prog 65 #[.slice A n c, .slice B m d] w (DivModRes w V b) := by
 by_cases hm : 1 < m;· exact divMod_many V b hV hb A B n c m d hm w h1 h2
 · have hl := h2.1;have h3 := bval_lt (digs b) (digs_lt b);rw [bval_digs, ← hl] at h3;have h0 : m ≠ 0 := fun h => by
    rw [h] at hl;have := digs_nil.1 (List.length_eq_zero_iff.1 hl.symm);omega
   obtain rfl : m = 1 := by omega
   rw [Nat.pow_one] at h3;exact divMod_one V b hb0 h3 (Nat.le_trans (len_30 hV) (by omega)) A B n c d w h1 h2
theorem pow_480 {k : Nat} (hk : k ≤ 60) : 10 ^ k < 65536 ^ 30 := Nat.lt_of_le_of_lt (Nat.pow_le_pow_right (by omega) hk) (by decide +kernel)
theorem two_pow31 : 65536 ^ 30 + 65536 ^ 30 ≤ 65536 ^ 31 := by decide +kernel
def CutRes (W : World) (neg : Bool) (V' : Nat) (x : Int) (ix : Bool) (e : Ending) (w' : World) : Prop :=
 ∃ A n c, e = .returned (.tuple #[.agg #[.bool neg, .slice A n c, .int .i64 x], .bool ix]) ∧ CB w' W.heap.size A n c (digs V') ∧ Fr NoB W w'
theorem cut_end {w w3 : World} {A : Option Addr} {n c : Nat} {xs : List Nat} (hs : w.heap.size + 2 ≤ w3.heap.size) (hC : CB w3 (w.heap.size + 2) A n c xs) (hF : Fr NoB w w3) (v0 v1 v2 : Value) :
 CB (((w3.setCell ⟨w.heap.size + 1, 0, none⟩ v0).setCell ⟨w.heap.size + 1, 1, none⟩ v1).setCell ⟨w.heap.size + 1, 2, none⟩ v2) w.heap.size A n c xs ∧ Fr NoB w (((w3.setCell ⟨w.heap.size + 1, 0, none⟩ v0).setCell ⟨w.heap.size + 1, 1, none⟩ v1).setCell ⟨w.heap.size + 1, 2, none⟩ v2) := by
 refine ⟨(((hC.far (p := ⟨w.heap.size + 1, 0, none⟩) (by show w.heap.size + 1 < _; omega) v0).far (p := ⟨w.heap.size + 1, 1, none⟩) (by show w.heap.size + 1 < _; omega) v1).far (p := ⟨w.heap.size + 1, 2, none⟩) (by show w.heap.size + 1 < _; omega) v2).lower (by omega), ?_⟩;have hFe : Fr (fun i => i = w.heap.size + 1) w3 (((w3.setCell ⟨w.heap.size + 1, 0, none⟩ v0).setCell ⟨w.heap.size + 1, 1, none⟩ v1).setCell ⟨w.heap.size + 1, 2, none⟩ v2) :=
  Fr.setCell (S := fun i => i = w.heap.size + 1) (p := ⟨w.heap.size + 1, 2, none⟩) (Fr.setCell (S := fun i => i = w.heap.size + 1) (p := ⟨w.heap.size + 1, 1, none⟩) (Fr.setCell (S := fun i => i = w.heap.size + 1) (p := ⟨w.heap.size + 1, 0, none⟩) (Fr.refl _ _) (fun _ => rfl) _) (fun _ => rfl) _) (fun _ => rfl) _
 exact hF.trans hFe (fun i hi h => by omega)
set_option maxRecDepth 100000 in
set_option maxHeartbeats 4000000 in
theorem cut_exact (neg : Bool) (V k mode : Nat) (x : Int) (hk : k ≤ 60) (hV : V < 65536 ^ 30) (hx : -1000000 ≤ x) (hx' : x ≤ 1000000) (hr : V % 10 ^ k = 0) (A : Option Addr) (n c : Nat) (w : World) (h1 : CN w A n c (digs V)) :
 Calls Tryz.prog 45 #[.agg #[.bool neg, .slice A n c, .int .i64 x], .int .i64 (k : Int), .int .i64 (mode : Int)] w (CutRes w neg (V / 10 ^ k) (x + k) false) := by
 have HP := hid (fun W => powerC k (by omega) W);have HD := hid (fun W B m d h2 h1 => divModC V (10 ^ k) hV (ten_pos k) (pow_480 hk) A B n c m d W h1 h2);have HR := hid hr;have hF0 : Fr NoB w ((w.alloc (.cells #[.bool neg, .slice A n c, .int .i64 x] 25)).alloc (.cells #[.bool false, .slice none 0 0, .int .i64 0] 25)) := ((Fr.refl _ _).alloc _).alloc _;have hB0 : BlkAt ((w.alloc (.cells #[.bool neg, .slice A n c, .int .i64 x] 25)).alloc (.cells #[.bool false, .slice none 0 0, .int .i64 0] 25)) w.heap.size #[.bool neg, .slice A n c, .int .i64 x] 25 := blk_alloc (blk_new w _) _;have hR0 : BlkAt ((w.alloc (.cells #[.bool neg, .slice A n c, .int .i64 x] 25)).alloc (.cells #[.bool false, .slice none 0 0, .int .i64 0] 25)) (w.heap.size + 1) #[.bool false, .slice none 0 0, .int .i64 0] 25 := by
  have := blk_new (w.alloc (.cells #[.bool neg, .slice A n c, .int .i64 x] 25)) (.cells #[.bool false, .slice none 0 0, .int .i64 0] 25 (0, 0));rw [World.size_alloc] at this;exact this
 have hs0 : ((w.alloc (.cells #[.bool neg, .slice A n c, .int .i64 x] 25)).alloc (.cells #[.bool false, .slice none 0 0, .int .i64 0] 25)).heap.size = w.heap.size + 2 := by simp
 have HF0 := hid hF0; have HB0 := hid hB0; have HR0 := hid hR0; have HS0 := hid hs0; have HA := hid h1;clear hF0 hB0 hR0 hs0 h1 hr hV;go_enter Tryz.func45, Tryz.ntmps45;go_wp2_with fail;generalize ((w.alloc (.cells #[.bool neg, .slice A n c, .int .i64 x] 25)).alloc (.cells #[.bool false, .slice none 0 0, .int .i64 0] 25)) = W at *
 refine (HP.out W).mono ?_;rintro e w1 ⟨A1, n1, c1, rfl, hC1, hF1⟩;have C1 := hid hC1; have F1 := hid hF1;have hB1 := hF1.blk HB0.out (fun h => h);have v0 := blk_cell hB1 0; have v1 := blk_cell hB1 1; have v2 := blk_cell hB1 2;simp only [List.getElem?_toArray, List.getElem?_cons_zero, List.getElem?_cons_succ] at v0 v1 v2;clear hC1 hF1 hB1;have F01 := hid (fr_tr HF0.out F1.out);go_wp2_with fail;refine (HD.out w1 _ _ _ C1.out.cn (HA.out.fr F01.out)).mono ?_;rintro e w2 ⟨A2, n2, c2, A3, n3, c3, rfl, hC2, hC3, hF2⟩;have F2 := hid (fr_tr F1.out hF2);have C2 := hid (hC2.lower (B' := w.heap.size + 2) (by have := F1.out.size; have := HS0.out; omega));have hn3 : n3 = 0 := by rw [hC3.1, HR.out, digs_zero]; rfl
 subst hn3;have hB2 := F2.out.blk HB0.out (fun h => h);have hR2 := F2.out.blk HR0.out (fun h => h);clear v0 v1 v2;have v0 := blk_cell hB2 0; have v1 := blk_cell hB2 1; have v2 := blk_cell hB2 2;have r0 := blk_cell hR2 0; have r1 := blk_cell hR2 1; have r2 := blk_cell hR2 2;have g0 := blk_frozen hR2 0; have g1 := blk_frozen hR2 1; have g2 := blk_frozen hR2 2;simp only [List.getElem?_toArray, List.getElem?_cons_zero, List.getElem?_cons_succ] at v0 v1 v2 r0 r1 r2;have F3 := hid (fr_tr HF0.out F2.out);have hs2 : w.heap.size + 2 ≤ w2.heap.size := by have := F2.out.size; have := HS0.out; omega
 clear hC2 hC3 hF2 hB2 hR2;go_wp2_with fail;have fin := cut_end hs2 C2.out F3.out (.bool neg) (.slice A2 n2 c2) (.int .i64 (x + k));refine bodyPost_ret (v := .tuple #[.agg #[.bool neg, .slice A2 n2 c2, .int .i64 (x + k)], .bool false]) (by simp [results, Tryz.results45, go_sem, r0, r1, r2]) rfl ?_;exact ⟨A2, n2, c2, rfl, fin.1, fin.2⟩
set_option maxRecDepth 100000 in
set_option maxHeartbeats 4000000 in
theorem cut_rest (add : Bool) (X : Nat) (neg : Bool) (V k mode : Nat) (x : Int) (hm : mode < 8) (hk : k ≤ 60) (hV : V < 65536 ^ 30) (hx : -1000000 ≤ x) (hx' : x ≤ 1000000) (hr : V % 10 ^ k ≠ 0)
 (hadd : addB mode neg (V / 10 ^ k) (cmpZ (V % 10 ^ k + V % 10 ^ k) (10 ^ k)) = add) (hX1 : add = true → V / 10 ^ k + 1 = X) (hX0 : add = false → V / 10 ^ k = X) (A : Option Addr) (n c : Nat) (w : World) (h1 : CN w A n c (digs V)) :
 Calls Tryz.prog 45 #[.agg #[.bool neg, .slice A n c, .int .i64 x], .int .i64 (k : Int), .int .i64 (mode : Int)] w (CutRes w neg X (x + k) true) := by
 have hrl : V % 10 ^ k < 10 ^ k := Nat.mod_lt _ (ten_pos k);have hp4 := pow_480 hk;have lq : (digs (V / 10 ^ k)).length ≤ 10000 := Nat.le_trans (len_30 (Nat.lt_of_le_of_lt (Nat.div_le_self _ _) hV)) (by omega);have lr : (digs (V % 10 ^ k)).length ≤ 10000 := mod_lim hV _;have l2 : (digs (V % 10 ^ k + V % 10 ^ k)).length ≤ 10000 := by
  refine Nat.le_trans (digs_length_le 31 _ ?_) (by omega);exact Nat.lt_of_lt_of_le (Nat.add_lt_add (Nat.lt_trans hrl hp4) (Nat.lt_trans hrl hp4)) two_pow31
 have lp : (digs (10 ^ k)).length ≤ 10000 := Nat.le_trans (len_30 hp4) (by omega);have HP := hid (fun W => powerC k (by omega) W);have hd : ∀ W B m d, CN W B m d (digs (10 ^ k)) → CN W A n c (digs V) → Calls Tryz.prog 65 #[.slice A n c, .slice B m d] W fun e w' => ∃ A n c A' n' c', e = .returned (.tuple #[.slice A n c, .slice A' n' c']) ∧ CB w' W.heap.size A n c (digs (V / 10 ^ k)) ∧ CN w' A' n' c' (digs (V % 10 ^ k)) ∧ Fr NoB W w' :=
  fun W B m d h2 h1 => divModC V (10 ^ k) hV (ten_pos k) hp4 A B n c m d W h1 h2
 have HD := hid hd;have HY := hid (fun W A n c h1 => byDigitC (V / 10 ^ k) 10 (by omega) (by omega) lq A n c W h1);have HA1 := hid (fun W A n c h1 => addC (V % 10 ^ k) (V % 10 ^ k) lr lr A A n c n c W h1 h1);have HCM := hid (fun W A B n c m d h1 h2 => cmpC (V % 10 ^ k + V % 10 ^ k) (10 ^ k) l2 lp A B n c m d W h1 h2);have HAW := hid (fun W => awayC neg (V / 10 ^ k) (cmpZ (V % 10 ^ k + V % 10 ^ k) (10 ^ k)) mode hm W);have HSM := hid (fun W => smallC 1 (by omega) W);have HA2 := hid (fun W A B n c m d h1 h2 => addC (V / 10 ^ k) 1 lq (by rw [show digs 1 = [1] from by decide +kernel]; simp) A B n c m d W h1 h2);rw [hadd] at HAW;have hn0 : 0 < (digs (V % 10 ^ k)).length := List.length_pos_iff.2 (fun h => hr (digs_nil.1 h));have HN := hid hn0;have HX1 := hid hX1; have HX0 := hid hX0;have hF0 : Fr NoB w ((w.alloc (.cells #[.bool neg, .slice A n c, .int .i64 x] 25)).alloc (.cells #[.bool false, .slice none 0 0, .int .i64 0] 25)) := ((Fr.refl _ _).alloc _).alloc _;have hB0 : BlkAt ((w.alloc (.cells #[.bool neg, .slice A n c, .int .i64 x] 25)).alloc (.cells #[.bool false, .slice none 0 0, .int .i64 0] 25)) w.heap.size #[.bool neg, .slice A n c, .int .i64 x] 25 := blk_alloc (blk_new w _) _;have hR0 : BlkAt ((w.alloc (.cells #[.bool neg, .slice A n c, .int .i64 x] 25)).alloc (.cells #[.bool false, .slice none 0 0, .int .i64 0] 25)) (w.heap.size + 1) #[.bool false, .slice none 0 0, .int .i64 0] 25 := by
  have := blk_new (w.alloc (.cells #[.bool neg, .slice A n c, .int .i64 x] 25)) (.cells #[.bool false, .slice none 0 0, .int .i64 0] 25 (0, 0));rw [World.size_alloc] at this;exact this
 have hs0 : ((w.alloc (.cells #[.bool neg, .slice A n c, .int .i64 x] 25)).alloc (.cells #[.bool false, .slice none 0 0, .int .i64 0] 25)).heap.size = w.heap.size + 2 := by simp
 have HF0 := hid hF0; have HB0 := hid hB0; have HR0 := hid hR0; have HS0 := hid hs0; have HA := hid h1;clear hF0 hB0 hR0 hs0 h1 hr hV hadd hp4 lq lr l2 lp hrl hn0 hd hX1 hX0;generalize cmpZ (V % 10 ^ k + V % 10 ^ k) (10 ^ k) = half at *
 generalize ((V / 10 ^ k % 10 : Nat) : Int) = la at *
 generalize V / 10 ^ k = q at *
 generalize V % 10 ^ k = r at *
 generalize 10 ^ k = P at *
 go_enter Tryz.func45, Tryz.ntmps45;go_wp2_with fail;generalize ((w.alloc (.cells #[.bool neg, .slice A n c, .int .i64 x] 25)).alloc (.cells #[.bool false, .slice none 0 0, .int .i64 0] 25)) = W at *
 refine (HP.out W).mono ?_;rintro e w1 ⟨A1, n1, c1, rfl, hC1, hF1⟩;have C1 := hid hC1; have F1 := hid hF1;have hB1 := hF1.blk HB0.out (fun h => h);have v0 := blk_cell hB1 0; have v1 := blk_cell hB1 1; have v2 := blk_cell hB1 2;simp only [List.getElem?_toArray, List.getElem?_cons_zero, List.getElem?_cons_succ] at v0 v1 v2;clear hC1 hF1 hB1;have F01 := hid (fr_tr HF0.out F1.out);go_wp2_with fail;refine (HD.out w1 _ _ _ C1.out.cn (HA.out.fr F01.out)).mono ?_;rintro e w2 ⟨A2, n2, c2, A3, n3, c3, rfl, hC2, hC3, hF2⟩;have F2 := hid (fr_tr F1.out hF2);have C2 := hid (hC2.lower (B' := w.heap.size + 2) (by have := F1.out.size; have := HS0.out; omega));have C3 := hid hC3;have P2 := hid (C1.out.cn.fr hF2);have hn3 : 0 < n3 := by rw [hC3.1]; exact HN.out
 clear v0 v1 v2 hC2 hC3 hF2 C1 F1 F01;have hn3' : ((n3 : Int) == 0) = false := beq_eq_false_iff_ne.2 (by omega);go_wp2_with fail;refine (HY.out w2 _ _ _ C2.out.cn).mono ?_;rintro e w3 ⟨A4, n4, c4, rfl, hC4, hF3⟩;have F3 := hid (fr_tr F2.out hF3);have D2 := hid (C2.out.fr hF3); have D3 := hid (C3.out.fr hF3); have P3 := hid (P2.out.fr hF3);clear C2 C3 P2 hC4 hF3 F2;have hB3 := F3.out.blk HB0.out (fun h => h);have v0 := blk_cell hB3 0;simp only [List.getElem?_toArray, List.getElem?_cons_zero, List.getElem?_cons_succ] at v0;clear hB3;go_wp2_with fail;go_region_with (first
  | (go_at_call 19; refine (HA1.out _ A3 n3 c3 (D3.out.fr ((Fr.refl _ _).drew))).mono ?_; rintro e w4 ⟨A5, n5, c5, rfl, hC5, hF5⟩; have G5 := hid (fr_tr ((Fr.refl NoB w3).drew) hF5); have F5 := hid (fr_tr F3.out G5.out); have C5 := hid hC5.cn; have hB5 := F5.out.blk HB0.out (fun h => h); have u0 := blk_cell hB5 0; simp only [List.getElem?_toArray, List.getElem?_cons_zero, List.getElem?_cons_succ] at u0; clear hC5 hF5 hB5)
  | (go_at_call 28; refine (HCM.out _ A5 A1 n5 c5 n1 c1 C5.out (P3.out.fr G5.out)).mono ?_; rintro e w5 ⟨rfl, hF6⟩; have G6 := hid (fr_tr G5.out hF6); have F6 := hid (fr_tr F3.out G6.out); have hB6 := F6.out.blk HB0.out (fun h => h); have t0 := blk_cell hB6 0; simp only [List.getElem?_toArray, List.getElem?_cons_zero, List.getElem?_cons_succ] at t0; clear hF6 hB6)
  | (go_at_call 67; refine (HAW.out _).mono ?_; rintro e w6 ⟨rfl, hF7⟩; have G7 := hid (fr_tr G6.out hF7); have F7 := hid (fr_tr F3.out G7.out); clear hF7))
 all_goals
  have D7 := hid (D2.out.fr G7.out);have F70 := hid (fr_tr HF0.out F7.out);have hs7 : w.heap.size + 2 ≤ w6.heap.size := by have := F7.out.size; have := HS0.out; omega
  clear v0 u0 t0 G5 G6 G7 F5 F6 C5 D2 D3 P3 HP HD HY HA1 HCM HAW HA HN F3;cases add with
  | false =>
   obtain rfl : q = X := HX0.out rfl;have hB7 := F7.out.blk HB0.out (fun h => h);have hR7 := F7.out.blk HR0.out (fun h => h);have v0 := blk_cell hB7 0; have v2 := blk_cell hB7 2;have r0 := blk_cell hR7 0; have r1 := blk_cell hR7 1; have r2 := blk_cell hR7 2;have g0 := blk_frozen hR7 0; have g1 := blk_frozen hR7 1; have g2 := blk_frozen hR7 2;simp only [List.getElem?_toArray, List.getElem?_cons_zero, List.getElem?_cons_succ] at v0 v2 r0 r1 r2;clear hB7 hR7 HX1 HX0 HSM HA2;go_wp2_with fail;have fin := cut_end hs7 D7.out F70.out (.bool neg) (.slice A2 n2 c2) (.int .i64 (x + k));refine bodyPost_ret (v := .tuple #[.agg #[.bool neg, .slice A2 n2 c2, .int .i64 (x + k)], .bool true]) (by simp [results, Tryz.results45, go_sem, r0, r1, r2]) rfl ?_;exact ⟨A2, n2, c2, rfl, fin.1, fin.2⟩
  | true =>
   obtain rfl : q + 1 = X := HX1.out rfl;clear HX1 HX0;go_wp2_with fail;refine (HSM.out w6).mono ?_;rintro e w7 ⟨A8, n8, c8, rfl, hC8, hF8⟩;have C8 := hid hC8.cn; have D8 := hid (D7.out.fr hF8); have F8 := hid (fr_tr F7.out hF8);clear hC8 hF8;have HA3 := hid (HA2.out w7 A2 A8 n2 c2 n8 c8 D8.out.cn C8.out);go_wp2_with fail;refine HA3.out.mono ?_;rintro e w8 ⟨A9, n9, c9, rfl, hC9, hF9⟩;have F9 := hid (fr_tr F8.out hF9);have F90 := hid (fr_tr HF0.out F9.out);have hs9 : w.heap.size + 2 ≤ w7.heap.size := by have := F8.out.size; have := HS0.out; omega
   have C9 := hid (hC9.lower (B' := w.heap.size + 2) hs9);have hs8 : w.heap.size + 2 ≤ w8.heap.size := by have := F9.out.size; have := HS0.out; omega
   have hB7 := F9.out.blk HB0.out (fun h => h);have hR7 := F9.out.blk HR0.out (fun h => h);have v0 := blk_cell hB7 0; have v2 := blk_cell hB7 2;have r0 := blk_cell hR7 0; have r1 := blk_cell hR7 1; have r2 := blk_cell hR7 2;have g0 := blk_frozen hR7 0; have g1 := blk_frozen hR7 1; have g2 := blk_frozen hR7 2;simp only [List.getElem?_toArray, List.getElem?_cons_zero, List.getElem?_cons_succ] at v0 v2 r0 r1 r2;clear hB7 hR7 hC9 hF9 HSM HA2 HA3;go_wp2_with fail;have fin := cut_end hs8 C9.out F90.out (.bool neg) (.slice A9 n9 c9) (.int .i64 (x + k));refine bodyPost_ret (v := .tuple #[.agg #[.bool neg, .slice A9 n9 c9, .int .i64 (x + k)], .bool true]) (by simp [results, Tryz.results45, go_sem, r0, r1, r2]) rfl ?_;exact ⟨A9, n9, c9, rfl, fin.1, fin.2⟩
theorem cutC (neg : Bool) (V k mode : Nat) (x : Int) (hm : mode < 8) (hk : k ≤ 60) (hV : V < 65536 ^ 30) (hx : -1000000 ≤ x) (hx' : x ≤ 1000000) (A : Option Addr) (n c : Nat) (w : World) (h1 : CN w A n c (digs V)) :
 Calls Tryz.prog 45 #[.agg #[.bool neg, .slice A n c, .int .i64 x], .int .i64 (k : Int), .int .i64 (mode : Int)] w (CutRes w neg (cutV mode neg V k) (x + k) (!decide (V % 10 ^ k = 0))) := by
 by_cases hr : V % 10 ^ k = 0
 · have e1 : cutV mode neg V k = V / 10 ^ k := by unfold cutV; rw [if_pos hr]
   rw [e1, decide_eq_true hr];exact cut_exact neg V k mode x hk hV hx hx' hr A n c w h1
 · rw [decide_eq_false hr];cases hadd : addB mode neg (V / 10 ^ k) (cmpZ (V % 10 ^ k + V % 10 ^ k) (10 ^ k)) with
   | true =>
    have e1 : cutV mode neg V k = V / 10 ^ k + 1 := by unfold cutV; rw [if_neg hr, hadd]; rfl
    rw [e1];exact cut_rest true _ neg V k mode x hm hk hV hx hx' hr hadd (fun _ => rfl) (fun h => by cases h) A n c w h1
   | false =>
    have e1 : cutV mode neg V k = V / 10 ^ k := by unfold cutV; rw [if_neg hr, hadd]; rfl
    rw [e1];exact cut_rest false _ neg V k mode x hm hk hV hx hx' hr hadd (fun h => by cases h) (fun _ => rfl) A n c w h1
theorem cutV_zero (neg : Bool) (X : Nat) : cutV 0 neg X 1 = X / 10 := by
 unfold cutV;rw [Nat.pow_one];split
 · rfl
 · rw [show ∀ q h, addB 0 neg q h = false from fun _ _ => rfl];rfl
theorem lim_200 {V : Nat} (h : blen V ≤ 200) : V < 65536 ^ 30 ∧ V + 1 < 65536 ^ 30 := by
 have h1 := lt_two_blen V;have h2 : 2 ^ blen V ≤ 2 ^ 200 := Nat.pow_le_pow_right (by omega) h;have h3 : (2 : Nat) ^ 200 + 1 < 65536 ^ 30 := by decide +kernel
 generalize (2 : Nat) ^ 200 = t at *
 generalize (65536 : Nat) ^ 30 = u at *
 omega
def RoundedRes (W : World) (neg : Bool) (V' : Nat) (x : Int) (rd ix : Bool) (e : Ending) (w' : World) : Prop :=
 ∃ A n c, e = .returned (.tuple #[.agg #[.bool neg, .slice A n c, .int .i64 x], .bool rd, .bool ix]) ∧ CN w' A n c (digs V') ∧ Fr NoB W w'
theorem fr_end3 {w w3 : World} {b : Nat} (hF : Fr NoB w w3) (hb : w.heap.size ≤ b) (v0 v1 v2 : Value) :
 Fr NoB w (((w3.setCell ⟨b, 0, none⟩ v0).setCell ⟨b, 1, none⟩ v1).setCell ⟨b, 2, none⟩ v2) := by
 have hFe : Fr (fun i => i = b) w3 (((w3.setCell ⟨b, 0, none⟩ v0).setCell ⟨b, 1, none⟩ v1).setCell ⟨b, 2, none⟩ v2) :=
  Fr.setCell (S := fun i => i = b) (p := ⟨b, 2, none⟩) (Fr.setCell (S := fun i => i = b) (p := ⟨b, 1, none⟩) (Fr.setCell (S := fun i => i = b) (p := ⟨b, 0, none⟩) (Fr.refl _ _) (fun _ => rfl) _) (fun _ => rfl) _) (fun _ => rfl) _
 exact hF.trans hFe (fun i hi h => by omega)
theorem cb_end3 {w3 : World} {B b : Nat} {A : Option Addr} {n c : Nat} {xs : List Nat} (hC : CB w3 B A n c xs) (hb : b < B) (v0 v1 v2 : Value) :
 CB (((w3.setCell ⟨b, 0, none⟩ v0).setCell ⟨b, 1, none⟩ v1).setCell ⟨b, 2, none⟩ v2) B A n c xs :=
 ((hC.far (p := ⟨b, 0, none⟩) hb v0).far (p := ⟨b, 1, none⟩) hb v1).far (p := ⟨b, 2, none⟩) hb v2
set_option maxRecDepth 100000 in
set_option maxHeartbeats 4000000 in
theorem rounded_few (neg : Bool) (V p mode : Nat) (x : Int) (hp : p ≤ 60) (hV : V < 65536 ^ 30) (hnd : Lib.nDigits V ≤ 60) (h : Lib.nDigits V ≤ p) (A : Option Addr) (n c : Nat) (w : World) (h1 : CN w A n c (digs V)) :
 Calls Tryz.prog 31 #[.agg #[.bool neg, .slice A n c, .int .i64 x], .int .i64 (p : Int), .int .i64 (mode : Int)] w (RoundedRes w neg V x false false) := by
 have HFG := hid (fun W A n c h1 => figuresC V (Nat.le_trans (len_30 hV) (by omega)) (by omega) A n c W h1);have hF0 : Fr NoB w ((w.alloc (.cells #[.bool neg, .slice A n c, .int .i64 x] 25)).alloc (.cells #[.bool false, .slice none 0 0, .int .i64 0] 25)) := ((Fr.refl _ _).alloc _).alloc _;have hB0 : BlkAt ((w.alloc (.cells #[.bool neg, .slice A n c, .int .i64 x] 25)).alloc (.cells #[.bool false, .slice none 0 0, .int .i64 0] 25)) w.heap.size #[.bool neg, .slice A n c, .int .i64 x] 25 := blk_alloc (blk_new w _) _;have hR0 : BlkAt ((w.alloc (.cells #[.bool neg, .slice A n c, .int .i64 x] 25)).alloc (.cells #[.bool false, .slice none 0 0, .int .i64 0] 25)) (w.heap.size + 1) #[.bool false, .slice none 0 0, .int .i64 0] 25 := by
  have := blk_new (w.alloc (.cells #[.bool neg, .slice A n c, .int .i64 x] 25)) (.cells #[.bool false, .slice none 0 0, .int .i64 0] 25 (0, 0));rw [World.size_alloc] at this;exact this
 have HF0 := hid hF0; have HB0 := hid hB0; have HR0 := hid hR0; have HA := hid h1;clear hF0 hB0 hR0 h1 hV;have hle : ((Lib.nDigits V : Nat) : Int) - (p : Int) ≤ 0 := by omega
 generalize Lib.nDigits V = nd at *
 go_enter Tryz.func31, Tryz.ntmps31;go_wp2_with fail;generalize ((w.alloc (.cells #[.bool neg, .slice A n c, .int .i64 x] 25)).alloc (.cells #[.bool false, .slice none 0 0, .int .i64 0] 25)) = W at *
 refine (HFG.out W _ _ _ (HA.out.fr HF0.out)).mono ?_;rintro e w1 ⟨rfl, hF1⟩;have hB1 := hF1.blk HB0.out (fun h => h);have hR1 := hF1.blk HR0.out (fun h => h);have v0 := blk_cell hB1 0; have v1 := blk_cell hB1 1; have v2 := blk_cell hB1 2;have r0 := blk_cell hR1 0; have r1 := blk_cell hR1 1; have r2 := blk_cell hR1 2;have g0 := blk_frozen hR1 0; have g1 := blk_frozen hR1 1; have g2 := blk_frozen hR1 2;simp only [List.getElem?_toArray, List.getElem?_cons_zero, List.getElem?_cons_succ] at v0 v1 v2 r0 r1 r2;have F1 := hid (fr_tr HF0.out hF1);clear hF1 hB1 hR1;go_wp2_with fail;have fin := fr_end3 F1.out (show w.heap.size ≤ w.heap.size + 1 by omega) (.bool neg) (.slice A n c) (.int .i64 x);refine bodyPost_ret (v := .tuple #[.agg #[.bool neg, .slice A n c, .int .i64 x], .bool false, .bool false]) (by simp [results, Tryz.results31, go_sem, r0, r1, r2]) rfl ?_;exact ⟨A, n, c, rfl, HA.out.fr fin, fin⟩
theorem rounded_fit (neg : Bool) (V p k mode X : Nat) (ix : Bool) (x : Int) (hm : mode < 8) (hp : p ≤ 60) (hV : V < 65536 ^ 30) (hnd : Lib.nDigits V ≤ 60) (hk : Lib.nDigits V = p + k) (hk1 : 1 ≤ k) (hx : -900000 ≤ x) (hx' : x ≤ 900000)
 (hX : cutV mode neg V k = X) (hXl : X < 65536 ^ 30) (hXd : Lib.nDigits X ≤ p) (hix : (!decide (V % 10 ^ k = 0)) = ix) (A : Option Addr) (n c : Nat) (w : World) (h1 : CN w A n c (digs V)) :
 Calls Tryz.prog 31 #[.agg #[.bool neg, .slice A n c, .int .i64 x], .int .i64 (p : Int), .int .i64 (mode : Int)] w (RoundedRes w neg X (x + k) true ix) := by
 have HFG := hid (fun W A n c h1 => figuresC V (Nat.le_trans (len_30 hV) (by omega)) (by omega) A n c W h1);have HFX := hid (fun W A n c h1 => figuresC X (Nat.le_trans (len_30 hXl) (by omega)) (by omega) A n c W h1);have hct : ∀ W A n c, CN W A n c (digs V) → Calls Tryz.prog 45 #[.agg #[.bool neg, .slice A n c, .int .i64 x], .int .i64 (((Lib.nDigits V : Nat) : Int) - (p : Int)), .int .i64 (mode : Int)] W (CutRes W neg X (x + k) ix) := fun W A n c h1 => by
  have h := cutC neg V k mode x hm (by omega) hV (by omega) (by omega) A n c W h1;rw [hX, hix] at h;rw [show ((Lib.nDigits V : Nat) : Int) - (p : Int) = (k : Int) by omega];exact h
 have HCT := hid hct;have hF0 : Fr NoB w ((w.alloc (.cells #[.bool neg, .slice A n c, .int .i64 x] 25)).alloc (.cells #[.bool false, .slice none 0 0, .int .i64 0] 25)) := ((Fr.refl _ _).alloc _).alloc _;have hB0 : BlkAt ((w.alloc (.cells #[.bool neg, .slice A n c, .int .i64 x] 25)).alloc (.cells #[.bool false, .slice none 0 0, .int .i64 0] 25)) w.heap.size #[.bool neg, .slice A n c, .int .i64 x] 25 := blk_alloc (blk_new w _) _;have hR0 : BlkAt ((w.alloc (.cells #[.bool neg, .slice A n c, .int .i64 x] 25)).alloc (.cells #[.bool false, .slice none 0 0, .int .i64 0] 25)) (w.heap.size + 1) #[.bool false, .slice none 0 0, .int .i64 0] 25 := by
  have := blk_new (w.alloc (.cells #[.bool neg, .slice A n c, .int .i64 x] 25)) (.cells #[.bool false, .slice none 0 0, .int .i64 0] 25 (0, 0));rw [World.size_alloc] at this;exact this
 have hs0 : ((w.alloc (.cells #[.bool neg, .slice A n c, .int .i64 x] 25)).alloc (.cells #[.bool false, .slice none 0 0, .int .i64 0] 25)).heap.size = w.heap.size + 2 := by simp
 have HF0 := hid hF0; have HB0 := hid hB0; have HR0 := hid hR0; have HS0 := hid hs0; have HA := hid h1;have hk0 : ¬ ((Lib.nDigits V : Nat) : Int) - (p : Int) ≤ 0 := by omega
 clear hF0 hB0 hR0 hs0 h1 hV hX hXl hix hct hk;generalize Lib.nDigits V = nd at *
 generalize Lib.nDigits X = xd at *
 go_enter Tryz.func31, Tryz.ntmps31;go_wp2_with fail;generalize ((w.alloc (.cells #[.bool neg, .slice A n c, .int .i64 x] 25)).alloc (.cells #[.bool false, .slice none 0 0, .int .i64 0] 25)) = W at *
 refine (HFG.out W _ _ _ (HA.out.fr HF0.out)).mono ?_;rintro e w1 ⟨rfl, hF1⟩;have F1 := hid hF1;have hB1 := hF1.blk HB0.out (fun h => h);have v0 := blk_cell hB1 0; have v1 := blk_cell hB1 1; have v2 := blk_cell hB1 2;simp only [List.getElem?_toArray, List.getElem?_cons_zero, List.getElem?_cons_succ] at v0 v1 v2;have F01 := hid (fr_tr HF0.out hF1);clear hF1 hB1;go_wp2_with fail;refine (HCT.out w1 _ _ _ (HA.out.fr F01.out)).mono ?_;rintro e w2 ⟨A2, n2, c2, rfl, hC2, hF2⟩;have F2 := hid (fr_tr F1.out hF2);have hsz := hF2.size;have hsz1 := F1.out.size;have hsz0 := HS0.out;have C2 := hid (hC2.lower (B' := w.heap.size + 2) (by omega));have HNB : Hid (BlkAt (w2.alloc (.cells #[.bool neg, .slice A2 n2 c2, .int .i64 (x + k)] 25)) w2.heap.size #[.bool neg, .slice A2 n2 c2, .int .i64 (x + k)] 25) := hid (blk_new _ _);have HNF : Hid (Fr NoB w2 (w2.alloc (.cells #[.bool neg, .slice A2 n2 c2, .int .i64 (x + k)] 25))) := hid ((Fr.refl _ _).alloc _);have hsz2 : w.heap.size + 2 ≤ w2.heap.size := by omega
 clear v0 v1 v2 hC2 hF2 hsz hsz1 hsz0;go_wp2_with fail;generalize (w2.alloc (.cells #[.bool neg, .slice A2 n2 c2, .int .i64 (x + k)] 25)) = W2 at *
 refine (HFX.out W2 _ _ _ (C2.out.cn.fr HNF.out)).mono ?_;rintro e w3 ⟨rfl, hF3⟩;have FN := hid (fr_tr HNF.out hF3);have F3 := hid (fr_tr F2.out FN.out);have hN3 := hF3.blk HNB.out (fun h => h);have hR3 := F3.out.blk HR0.out (fun h => h);have v0 := blk_cell hN3 0; have v1 := blk_cell hN3 1; have v2 := blk_cell hN3 2;have r0 := blk_cell hR3 0; have r1 := blk_cell hR3 1; have r2 := blk_cell hR3 2;have g0 := blk_frozen hR3 0; have g1 := blk_frozen hR3 1; have g2 := blk_frozen hR3 2;simp only [List.getElem?_toArray, List.getElem?_cons_zero, List.getElem?_cons_succ] at v0 v1 v2 r0 r1 r2;clear hF3 hN3 hR3;have F4 := hid (fr_tr HF0.out F3.out);go_wp2_with fail;have fin := fr_end3 F4.out (show w.heap.size ≤ w.heap.size + 1 by omega) (.bool neg) (.slice A2 n2 c2) (.int .i64 (x + k));refine bodyPost_ret (v := .tuple #[.agg #[.bool neg, .slice A2 n2 c2, .int .i64 (x + k)], .bool true, .bool ix]) (by simp [results, Tryz.results31, go_sem, r0, r1, r2]) rfl ?_;exact ⟨A2, n2, c2, rfl, (cb_end3 (C2.out.fr FN.out) (show w.heap.size + 1 < w.heap.size + 2 by omega) _ _ _).cn, fin⟩
theorem rounded_more (neg : Bool) (V p k mode X : Nat) (ix ix2 : Bool) (x : Int) (hm : mode < 8) (hp : p ≤ 60) (hV : V < 65536 ^ 30) (hnd : Lib.nDigits V ≤ 60) (hk : Lib.nDigits V = p + k) (hk1 : 1 ≤ k) (hx : -900000 ≤ x) (hx' : x ≤ 900000)
 (hX : cutV mode neg V k = X) (hXl : X < 65536 ^ 30) (hXd : p < Lib.nDigits X) (hXd' : Lib.nDigits X ≤ 100) (hix : (!decide (V % 10 ^ k = 0)) = ix) (hix2 : (!decide (X % 10 ^ 1 = 0)) = ix2) (A : Option Addr) (n c : Nat) (w : World) (h1 : CN w A n c (digs V)) :
 Calls Tryz.prog 31 #[.agg #[.bool neg, .slice A n c, .int .i64 x], .int .i64 (p : Int), .int .i64 (mode : Int)] w (RoundedRes w neg (X / 10) (x + k + 1) true ix) := by
 have HFG := hid (fun W A n c h1 => figuresC V (Nat.le_trans (len_30 hV) (by omega)) (by omega) A n c W h1);have HFX := hid (fun W A n c h1 => figuresC X (Nat.le_trans (len_30 hXl) (by omega)) (by omega) A n c W h1);have hct : ∀ W A n c, CN W A n c (digs V) → Calls Tryz.prog 45 #[.agg #[.bool neg, .slice A n c, .int .i64 x], .int .i64 (((Lib.nDigits V : Nat) : Int) - (p : Int)), .int .i64 (mode : Int)] W (CutRes W neg X (x + k) ix) := fun W A n c h1 => by
  have h := cutC neg V k mode x hm (by omega) hV (by omega) (by omega) A n c W h1;rw [hX, hix] at h;rw [show ((Lib.nDigits V : Nat) : Int) - (p : Int) = (k : Int) by omega];exact h
 have HCT := hid hct;have hct2 := fun W A n c h1 => cutC neg X 1 0 (x + k) (by omega) (by omega) hXl (by omega) (by omega) A n c W h1
 rw [cutV_zero, hix2] at hct2;have HCT2 := hid hct2;have hF0 : Fr NoB w ((w.alloc (.cells #[.bool neg, .slice A n c, .int .i64 x] 25)).alloc (.cells #[.bool false, .slice none 0 0, .int .i64 0] 25)) := ((Fr.refl _ _).alloc _).alloc _;have hB0 : BlkAt ((w.alloc (.cells #[.bool neg, .slice A n c, .int .i64 x] 25)).alloc (.cells #[.bool false, .slice none 0 0, .int .i64 0] 25)) w.heap.size #[.bool neg, .slice A n c, .int .i64 x] 25 := blk_alloc (blk_new w _) _;have hR0 : BlkAt ((w.alloc (.cells #[.bool neg, .slice A n c, .int .i64 x] 25)).alloc (.cells #[.bool false, .slice none 0 0, .int .i64 0] 25)) (w.heap.size + 1) #[.bool false, .slice none 0 0, .int .i64 0] 25 := by
  have := blk_new (w.alloc (.cells #[.bool neg, .slice A n c, .int .i64 x] 25)) (.cells #[.bool false, .slice none 0 0, .int .i64 0] 25 (0, 0));rw [World.size_alloc] at this;exact this
 have hs0 : ((w.alloc (.cells #[.bool neg, .slice A n c, .int .i64 x] 25)).alloc (.cells #[.bool false, .slice none 0 0, .int .i64 0] 25)).heap.size = w.heap.size + 2 := by simp
 have HF0 := hid hF0; have HB0 := hid hB0; have HR0 := hid hR0; have HS0 := hid hs0; have HA := hid h1;have hk0 : ¬ ((Lib.nDigits V : Nat) : Int) - (p : Int) ≤ 0 := by omega
 clear hF0 hB0 hR0 hs0 h1 hV hX hXl hix hix2 hct hct2 hk;generalize Lib.nDigits V = nd at *
 generalize Lib.nDigits X = xd at *
 go_enter Tryz.func31, Tryz.ntmps31;go_wp2_with fail;generalize ((w.alloc (.cells #[.bool neg, .slice A n c, .int .i64 x] 25)).alloc (.cells #[.bool false, .slice none 0 0, .int .i64 0] 25)) = W at *
 refine (HFG.out W _ _ _ (HA.out.fr HF0.out)).mono ?_;rintro e w1 ⟨rfl, hF1⟩;have F1 := hid hF1;have hB1 := hF1.blk HB0.out (fun h => h);have v0 := blk_cell hB1 0; have v1 := blk_cell hB1 1; have v2 := blk_cell hB1 2;simp only [List.getElem?_toArray, List.getElem?_cons_zero, List.getElem?_cons_succ] at v0 v1 v2;have F01 := hid (fr_tr HF0.out hF1);clear hF1 hB1;go_wp2_with fail;refine (HCT.out w1 _ _ _ (HA.out.fr F01.out)).mono ?_;rintro e w2 ⟨A2, n2, c2, rfl, hC2, hF2⟩;have F2 := hid (fr_tr F1.out hF2);have hsz := hF2.size;have hsz1 := F1.out.size;have hsz0 := HS0.out;have C2 := hid (hC2.lower (B' := w.heap.size + 2) (by omega));have HNB : Hid (BlkAt (w2.alloc (.cells #[.bool neg, .slice A2 n2 c2, .int .i64 (x + k)] 25)) w2.heap.size #[.bool neg, .slice A2 n2 c2, .int .i64 (x + k)] 25) := hid (blk_new _ _);have HNF : Hid (Fr NoB w2 (w2.alloc (.cells #[.bool neg, .slice A2 n2 c2, .int .i64 (x + k)] 25))) := hid ((Fr.refl _ _).alloc _);have HNS : Hid ((w2.alloc (.cells #[.bool neg, .slice A2 n2 c2, .int .i64 (x + k)] 25)).heap.size = w2.heap.size + 1) := hid (by simp);have hsz2 : w.heap.size + 2 ≤ w2.heap.size := by omega
 clear v0 v1 v2 hC2 hF2 hsz hsz1 hsz0;go_wp2_with fail;generalize (w2.alloc (.cells #[.bool neg, .slice A2 n2 c2, .int .i64 (x + k)] 25)) = W2 at *
 refine (HFX.out W2 _ _ _ (C2.out.cn.fr HNF.out)).mono ?_;rintro e w3 ⟨rfl, hF3⟩;have FN := hid (fr_tr HNF.out hF3);have HN3 := hid (hF3.blk HNB.out (fun h => h));have hN3 := HN3.out;have v0 := blk_cell hN3 0; have v1 := blk_cell hN3 1; have v2 := blk_cell hN3 2;simp only [List.getElem?_toArray, List.getElem?_cons_zero, List.getElem?_cons_succ] at v0 v1 v2;have hs3 : w2.heap.size + 1 ≤ w3.heap.size := by have := hF3.size; have := HNS.out; omega
 clear hF3 hN3;go_wp2_with fail;refine (HCT2.out w3 _ _ _ (C2.out.cn.fr FN.out)).mono ?_;rintro e w4 ⟨A4, n4, c4, rfl, hC4, hF4⟩;have F4 := hid (fr_tr FN.out hF4);have F40 := hid (fr_tr F2.out F4.out);have C4 := hid (hC4.lower (B' := w2.heap.size + 1) hs3);have hN4 := hF4.blk HN3.out (fun h => h);have hR4 := F40.out.blk HR0.out (fun h => h);clear v0 v1 v2;have v0 := blk_cell hN4 0; have v1 := blk_cell hN4 1; have v2 := blk_cell hN4 2;have f0 := blk_frozen hN4 0; have f1 := blk_frozen hN4 1; have f2 := blk_frozen hN4 2;have r0 := blk_cell hR4 0; have r1 := blk_cell hR4 1; have r2 := blk_cell hR4 2;have g0 := blk_frozen hR4 0; have g1 := blk_frozen hR4 1; have g2 := blk_frozen hR4 2;simp only [List.getElem?_toArray, List.getElem?_cons_zero, List.getElem?_cons_succ] at v0 v1 v2 r0 r1 r2;have F5 := hid (fr_tr HF0.out F40.out);have hne : w2.heap.size ≠ w.heap.size + 1 := by omega
 have hne' : w.heap.size + 1 ≠ w2.heap.size := by omega
 clear hC4 hF4 hN4 hR4;go_wp2_with fail;have fin1 := fr_end3 F5.out (show w.heap.size ≤ w2.heap.size by omega) (.bool neg) (.slice A4 n4 c4) (.int .i64 (x + k + 1));have fin := fr_end3 fin1 (show w.heap.size ≤ w.heap.size + 1 by omega) (.bool neg) (.slice A4 n4 c4) (.int .i64 (x + k + 1));refine bodyPost_ret (v := .tuple #[.agg #[.bool neg, .slice A4 n4 c4, .int .i64 (x + k + 1)], .bool true, .bool ix]) (by simp [results, Tryz.results31, go_sem, r0, r1, r2]) rfl ?_;exact ⟨A4, n4, c4, rfl, (cb_end3 (cb_end3 C4.out (show w2.heap.size < w2.heap.size + 1 by omega) _ _ _) (show w.heap.size + 1 < w2.heap.size + 1 by omega) _ _ _).cn, fin⟩
theorem roundedC (neg : Bool) (V p mode : Nat) (x : Int) (hm : mode < 8) (hp1 : 1 ≤ p) (hp : p ≤ 60) (hV : blen V ≤ 200) (hnd : Lib.nDigits V ≤ 60) (hx : -900000 ≤ x) (hx' : x ≤ 900000) (A : Option Addr) (n c : Nat) (w : World) (h1 : CN w A n c (digs V)) :
 Calls Tryz.prog 31 #[.agg #[.bool neg, .slice A n c, .int .i64 x], .int .i64 (p : Int), .int .i64 (mode : Int)] w
  (RoundedRes w neg (rndV mode neg V p) (x + ((rndE mode neg V p : Nat) : Int)) (!decide (Lib.nDigits V ≤ p)) (!decide (Lib.nDigits V ≤ p) && !decide (V % 10 ^ (Lib.nDigits V - p) = 0))) := by
 have hl := lim_200 hV;by_cases h : Lib.nDigits V ≤ p
 · have e2 : rndV mode neg V p = V := by unfold rndV; rw [if_pos h]
   have e3 : rndE mode neg V p = 0 := by unfold rndE; rw [if_pos h]
   rw [e2, e3, decide_eq_true h, show x + ((0 : Nat) : Int) = x by omega];exact rounded_few neg V p mode x hp hl.1 hnd h A n c w h1
 · obtain ⟨k, hk⟩ : ∃ k, Lib.nDigits V = p + k := ⟨Lib.nDigits V - p, by omega⟩
   have hkk : Lib.nDigits V - p = k := by omega
   have hX := Nat.lt_of_le_of_lt (Nat.le_trans (cutV_le mode neg V k) (Nat.add_le_add_right (Nat.div_le_self _ _) 1)) hl.2;have hd := nDigits_cutV mode neg V p hp1 (by omega);rw [hkk] at hd;rw [decide_eq_false h, hkk];by_cases hc : p < Lib.nDigits (cutV mode neg V k)
   · have e2 : rndV mode neg V p = cutV mode neg V k / 10 := by unfold rndV; rw [if_neg h, hkk, if_pos hc]
     have e3 : rndE mode neg V p = k + 1 := by unfold rndE; rw [if_neg h, hkk, if_pos hc]
     rw [e2, e3, show x + ((k + 1 : Nat) : Int) = x + k + 1 by omega];exact rounded_more neg V p k mode _ _ _ x hm hp hl.1 hnd hk (by omega) hx hx' rfl hX hc (by omega) rfl rfl A n c w h1
   · have e2 : rndV mode neg V p = cutV mode neg V k := by unfold rndV; rw [if_neg h, hkk, if_neg hc]
     have e3 : rndE mode neg V p = k := by unfold rndE; rw [if_neg h, hkk, if_neg hc]
     rw [e2, e3];exact rounded_fit neg V p k mode _ _ x hm hp hl.1 hnd hk (by omega) hx hx' rfl hX (by omega) rfl A n c w h1
end Go.Proofs.YteokhhepnoelhaaGreatDoor
