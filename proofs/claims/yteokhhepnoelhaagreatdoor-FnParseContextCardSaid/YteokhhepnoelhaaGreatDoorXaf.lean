/-
  Plain arithmetic of the division of words: the reciprocal, the guess, the steps of divWW.
-/
import Derived.Test.YteokhhepnoelhaaGreatDoorXad
import Derived.Test.YteokhhepnoelhaaGreatDoorXae
import Derived.Test.YteokhhepnoelhaaGreatDoorXac
import Derived.Deep.QuietTactic
import Derived.BigQuiet
import Derived.Deep.LoopGhost
import Derived.Laws.CopyOwn
set_option linter.unusedVariables false
set_option linter.unusedSimpArgs false
namespace Go.Proofs.YteokhhepnoelhaaGreatDoor
def recN (d : Nat) : Nat := 340282366920938463463374607431768211455 / d - 18446744073709551616
theorem recN_spec {d : Nat} (h1 : 9223372036854775808 ≤ d) (h2 : d < 18446744073709551616) :
 d * (recN d + 18446744073709551616) ≤ 340282366920938463463374607431768211455 ∧ 340282366920938463463374607431768211455 < d * (recN d + 18446744073709551616) + d ∧ recN d < 18446744073709551616 := by
 have hq : 18446744073709551616 ≤ 340282366920938463463374607431768211455 / d := (Nat.le_div_iff_mul_le (by omega)).2 (by omega);have e : recN d + 18446744073709551616 = 340282366920938463463374607431768211455 / d := by unfold recN; omega
 have hm := Nat.div_add_mod 340282366920938463463374607431768211455 d;have hl := Nat.mod_lt 340282366920938463463374607431768211455 (show d > 0 by omega);have h3 : 340282366920938463463374607431768211455 / d < 36893488147419103232 := (Nat.div_lt_iff_lt_mul (by omega)).2 (by omega);rw [e];refine ⟨by omega, by omega, by omega⟩
theorem guess_any {d M x1 x0 q : Nat} (hd0 : 0 < d) (hd : d ≤ 18446744073709551616) (hM : d * M ≤ 340282366920938463463374607431768211455) (hM' : 340282366920938463463374607431768211455 < d * M + d)
 (h1 : x1 < d) (h0 : x0 < 18446744073709551616) (hq : 18446744073709551616 * q ≤ M * x1 + x0) (hq' : M * x1 + x0 < 18446744073709551616 * q + 18446744073709551616) :
 d * q ≤ x1 * 18446744073709551616 + x0 ∧ x1 * 18446744073709551616 + x0 < d * q + (18446744073709551616 + d) := by
 have k1 := Nat.mul_le_mul_left d hq;have k2 := Nat.mul_le_mul_right x1 hM;have k3 := Nat.mul_le_mul_right x0 hd;have k4 := Nat.mul_lt_mul_of_pos_left hq' hd0;have k5 : 340282366920938463463374607431768211456 * x1 ≤ (d * M + d) * x1 := Nat.mul_le_mul_right x1 hM';obtain ⟨e, he⟩ : ∃ e, e + d = 18446744073709551616 := ⟨18446744073709551616 - d, by omega⟩
 have k6 : e * x0 ≤ e * 18446744073709551616 := Nat.mul_le_mul_left e (by omega);have k7 : d * x1 ≤ d * 18446744073709551616 := Nat.mul_le_mul_left d (by omega);have k8 : (e + d) * x0 = 18446744073709551616 * x0 := by rw [he]
 have a1 : d * (M * x1 + x0) = d * M * x1 + d * x0 := by rw [Nat.mul_add, Nat.mul_assoc]
 have a2 : d * (18446744073709551616 * q + 18446744073709551616) = 18446744073709551616 * (d * q) + 18446744073709551616 * d := by rw [Nat.mul_add, Nat.mul_left_comm, Nat.mul_comm d 18446744073709551616]
 have a3 : d * (18446744073709551616 * q) = 18446744073709551616 * (d * q) := Nat.mul_left_comm _ _ _;rw [a1, a3] at k1;rw [a1, a2] at k4;rw [Nat.add_mul] at k5 k8;clear a1 a2 a3;generalize d * q = dq at *
 generalize d * M * x1 = dmx at *
 generalize d * x0 = dx0 at *
 generalize d * x1 = dx1 at *
 generalize e * x0 = ex0 at *
 constructor;· omega
 · omega
structure DivSteps (d x1 x0 t1 t0 c q dq1 dq0 b r0 r1 : Nat) : Prop where
 hq : (t1 + x1 + c) % 18446744073709551616 = q
 hc : (t0 + x0 + 0) / 18446744073709551616 = c
 c1 : c ≤ 1
 b1 : b ≤ 1
 ql : q < 18446744073709551616
 r0l : r0 < 18446744073709551616
 r1l : r1 ≤ 1
 hb : (if x0 < dq0 + 0 then 1 else 0) = b
 h0 : (x0 + 18446744073709551616 - dq0 - 0) % 18446744073709551616 = r0
 h1 : (x1 + 18446744073709551616 - dq1 - b) % 18446744073709551616 = r1
 dq : d * q + (r1 * 18446744073709551616 + r0) = x1 * 18446744073709551616 + x0
 rl : r1 * 18446744073709551616 + r0 < 18446744073709551616 + d
theorem small_any {X D n : Nat} (g1 : D ≤ X) (g2 : X < D + n) : X - D < n := by omega
theorem divSteps (d x1 x0 : Nat) (hd1 : 9223372036854775808 ≤ d) (hd2 : d < 18446744073709551616) (h1 : x1 < d) (h0 : x0 < 18446744073709551616) :
 ∃ t1 t0 c q dq1 dq0 b r0 r1, (recN d * x1 / 18446744073709551616 = t1) ∧ (recN d * x1 % 18446744073709551616 = t0) ∧ (d * q / 18446744073709551616 = dq1) ∧ (d * q % 18446744073709551616 = dq0) ∧ DivSteps d x1 x0 t1 t0 c q dq1 dq0 b r0 r1 := by
 obtain ⟨m1, m2, m3⟩ := recN_spec hd1 hd2;generalize recN d = m at *
 obtain ⟨t1, ht1⟩ : ∃ t1, m * x1 / 18446744073709551616 = t1 := ⟨_, rfl⟩
 obtain ⟨t0, ht0⟩ : ∃ t0, m * x1 % 18446744073709551616 = t0 := ⟨_, rfl⟩
 obtain ⟨c, hc⟩ : ∃ c, (t0 + x0 + 0) / 18446744073709551616 = c := ⟨_, rfl⟩
 have g := guess_any (q := t1 + c + x1) (by omega) (by omega) m1 m2 h1 h0 (by rw [Nat.add_mul]; generalize m * x1 = z at *; omega) (by rw [Nat.add_mul]; generalize m * x1 = z at *; omega);obtain ⟨q, hq⟩ : ∃ q, (t1 + x1 + c) % 18446744073709551616 = q := ⟨_, rfl⟩
 have hlt : t1 + c + x1 < 18446744073709551616 := by
  refine Nat.lt_of_not_le (fun hh => ?_);have h3 := Nat.mul_le_mul_left d hh;have h4 : x1 * 18446744073709551616 + x0 < d * 18446744073709551616 := by omega
  omega
 have hqq : t1 + c + x1 = q := by omega
 rw [hqq] at g;obtain ⟨g1, g2⟩ := g;obtain ⟨dq1, hd1⟩ : ∃ n, d * q / 18446744073709551616 = n := ⟨_, rfl⟩
 obtain ⟨dq0, hd0⟩ : ∃ n, d * q % 18446744073709551616 = n := ⟨_, rfl⟩
 obtain ⟨b, hb⟩ : ∃ n, (if x0 < dq0 + 0 then 1 else 0) = n := ⟨_, rfl⟩
 obtain ⟨r0, hr0⟩ : ∃ n, (x0 + 18446744073709551616 - dq0 - 0) % 18446744073709551616 = n := ⟨_, rfl⟩
 obtain ⟨r1, hr1⟩ : ∃ n, (x1 + 18446744073709551616 - dq1 - b) % 18446744073709551616 = n := ⟨_, rfl⟩
 have hb1 : b ≤ 1 := by split at hb <;> omega
 have e1 : 18446744073709551616 * dq1 + dq0 = d * q := by omega
 have hd0l : dq0 < 18446744073709551616 := by omega
 generalize hD : d * q = D at *
 have hx1 : dq1 ≤ x1 := by omega
 have key : r1 * 18446744073709551616 + r0 = x1 * 18446744073709551616 + x0 - D ∧ r1 ≤ 1 ∧ r0 < 18446744073709551616 := by
  by_cases hlt : x0 < dq0 + 0
  · rw [if_pos hlt] at hb;have a1 : r0 = x0 + 18446744073709551616 - dq0 := by omega
    have a2 : dq1 + 1 ≤ x1 := by omega
    have a3 : r1 = x1 - dq1 - 1 := by omega
    omega
  · rw [if_neg hlt] at hb;have a1 : r0 = x0 - dq0 := by omega
    have a3 : r1 = x1 - dq1 := by omega
    omega
 obtain ⟨k1, k2, k3⟩ := key;have f1 : D + (r1 * 18446744073709551616 + r0) = x1 * 18446744073709551616 + x0 := by omega
 have f2 : r1 * 18446744073709551616 + r0 < 18446744073709551616 + d := k1 ▸ small_any g1 g2;have f3 : c ≤ 1 := by omega
 have hql : q < 18446744073709551616 := by omega
 subst hD;have st : DivSteps d x1 x0 t1 t0 c q dq1 dq0 b r0 r1 := ⟨hq, hc, f3, hb1, hql, k3, k2, hb, hr0, hr1, f1, f2⟩
 exact ⟨t1, t0, c, q, dq1, dq0, b, r0, r1, ht1, ht0, hd1, hd0, st⟩
theorem div_of_eq {d q r X : Nat} (h : d * q + r = X) (hr : r < d) : X / d = q ∧ X % d = r := by
 subst h;constructor;· rw [Nat.mul_add_div (by omega), Nat.div_eq_of_lt hr, Nat.add_zero]
 · rw [Nat.mul_add_mod, Nat.mod_eq_of_lt hr]
theorem words_lt {x1 x0 d : Nat} (h1 : x1 < d) (h0 : x0 < 18446744073709551616) : x1 * 18446744073709551616 + x0 < d * 18446744073709551616 := by omega
theorem divSteps_end {d x1 x0 t1 t0 c q dq1 dq0 b r0 r1 : Nat} (hd1 : 9223372036854775808 ≤ d) (hd2 : d < 18446744073709551616) (hx : x1 < d) (h0 : x0 < 18446744073709551616) (h : DivSteps d x1 x0 t1 t0 c q dq1 dq0 b r0 r1) :
 ((r1 = 0 ∧ r0 < d ∧ (x1 * 18446744073709551616 + x0) / d = q ∧ (x1 * 18446744073709551616 + x0) % d = r0) ∨
  (r1 = 0 ∧ d ≤ r0 ∧ (x1 * 18446744073709551616 + x0) / d = q + 1 ∧ (x1 * 18446744073709551616 + x0) % d = r0 - d) ∨
  (r1 = 1 ∧ r0 < d ∧ r0 + 18446744073709551616 - d < d ∧ (x1 * 18446744073709551616 + x0) / d = q + 1 ∧ (x1 * 18446744073709551616 + x0) % d = r0 + 18446744073709551616 - d) ∨
  (r1 = 1 ∧ r0 < d ∧ d ≤ r0 + 18446744073709551616 - d ∧ r0 + 18446744073709551616 - d < 18446744073709551616 ∧ (x1 * 18446744073709551616 + x0) / d = q + 2 ∧ (x1 * 18446744073709551616 + x0) % d = r0 + 18446744073709551616 - d - d)) ∧
 (x1 * 18446744073709551616 + x0) / d < 18446744073709551616 ∧ (x1 * 18446744073709551616 + x0) % d < d := by
 have hdq := h.dq;have hrl := h.rl;have hr0 := h.r0l;have hr1 := h.r1l;refine ⟨?_, ?_, Nat.mod_lt _ (by omega)⟩
 · by_cases hz : r1 = 0
   · subst hz;by_cases hlt : r0 < d
     · obtain ⟨a, b⟩ := div_of_eq (d := d) (q := q) (r := r0) (X := x1 * 18446744073709551616 + x0) (by omega) hlt;exact .inl ⟨rfl, hlt, a, b⟩
     · obtain ⟨a, b⟩ := div_of_eq (d := d) (q := q + 1) (r := r0 - d) (X := x1 * 18446744073709551616 + x0) (by rw [Nat.mul_add]; omega) (by omega);exact .inr (.inl ⟨rfl, by omega, a, b⟩)
   · obtain rfl : r1 = 1 := by omega
     by_cases hlt : r0 + 18446744073709551616 - d < d;· obtain ⟨a, b⟩ := div_of_eq (d := d) (q := q + 1) (r := r0 + 18446744073709551616 - d) (X := x1 * 18446744073709551616 + x0) (by rw [Nat.mul_add]; omega) (by omega);exact .inr (.inr (.inl ⟨rfl, by omega, hlt, a, b⟩))
     · obtain ⟨a, b⟩ := div_of_eq (d := d) (q := q + 2) (r := r0 + 18446744073709551616 - d - d) (X := x1 * 18446744073709551616 + x0) (by rw [Nat.mul_add]; omega) (by omega);exact .inr (.inr (.inr ⟨rfl, by omega, by omega, by omega, a, b⟩))
 · exact Nat.div_lt_of_lt_mul (words_lt hx h0)
def divZ : List Nat → Nat → List Nat
 | [], _ => []
 | x :: xs, y => ((nval xs % y) * WB + x) / y :: divZ xs y
theorem divZ_length (xs : List Nat) (y : Nat) : (divZ xs y).length = xs.length := by
 induction xs with
 | nil => rfl
 | cons x xs ih => simp [divZ, ih]
theorem nval_cons_eq (x : Nat) (xs : List Nat) (y : Nat) : nval (x :: xs) = y * (WB * (nval xs / y)) + ((nval xs % y) * WB + x) := by
 have := Nat.div_add_mod (nval xs) y;rw [nval];generalize nval xs / y = q at *
 generalize nval xs % y = r at *
 rw [← this, Nat.mul_add, Nat.mul_left_comm, Nat.mul_comm WB r];omega
theorem nval_divZ (xs : List Nat) (y : Nat) (hy : 0 < y) : nval (divZ xs y) = nval xs / y := by
 induction xs with
 | nil => simp [divZ, nval]
 | cons x xs ih =>
  rw [nval_cons_eq x xs y, Nat.mul_add_div hy, divZ, nval, ih];omega
theorem nval_cons_mod (x : Nat) (xs : List Nat) (y : Nat) : nval (x :: xs) % y = ((nval xs % y) * WB + x) % y := by
 rw [nval_cons_eq x xs y, Nat.mul_add_mod]
theorem divZ_lt (xs : List Nat) (y : Nat) (hy : 0 < y) (h : ∀ x ∈ xs, x < WB) : ∀ z ∈ divZ xs y, z < WB := by
 induction xs with
 | nil => simp [divZ]
 | cons x xs ih =>
  intro z hz;rw [divZ] at hz;rcases List.mem_cons.1 hz with rfl | hz;· have hx := h x (by simp);have hr := Nat.mod_lt (nval xs) hy;rw [Nat.div_lt_iff_lt_mul hy];have h3 : (nval xs % y + 1) * WB ≤ y * WB := Nat.mul_le_mul_right WB hr;rw [Nat.add_mul] at h3;rw [Nat.mul_comm WB y];omega
  · exact ih (fun u hu => h u (by simp [hu])) z hz
theorem divZ_get (xs : List Nat) (y : Nat) : ∀ (j x : Nat), xs[j]? = some x → (divZ xs y)[j]? = some (((nval (xs.drop (j + 1)) % y) * WB + x) / y) := by
 induction xs with
 | nil => intro j x h; simp at h
 | cons u xs ih =>
  intro j x h;cases j with
  | zero => simp at h; subst h; simp [divZ]
  | succ j => simp at h; simp [divZ, ih j x h]
theorem nval_drop (xs : List Nat) (j x : Nat) (h : xs[j]? = some x) : xs.drop j = x :: xs.drop (j + 1) := by
 obtain ⟨h1, h2⟩ := List.getElem?_eq_some_iff.1 h;rw [List.drop_eq_getElem_cons h1, h2]
theorem normL_divZ (X y : Nat) (hy : 0 < y) : normL (divZ (limbs X) y) = limbs (X / y) := by
 rw [normL_limbs _ (divZ_lt _ y hy (limbs_lt X)), nval_divZ _ y hy, nval_limbs]
end Go.Proofs.YteokhhepnoelhaaGreatDoor
namespace Go.Proofs.YteokhhepnoelhaaGreatDoor
open Go.RowKit
theorem blen_le64 {x : Nat} (hx : x < 18446744073709551616) : blen x ≤ 64 := by
 by_cases h0 : x = 0;· subst h0; decide
 · have := (blen_bounds h0).1;refine Nat.le_of_not_lt (fun h => ?_);have h2 : 2 ^ 64 ≤ 2 ^ (blen x - 1) := Nat.pow_le_pow_right (by omega) (by omega);omega
theorem ret_int {k : IntKind} {a b : Int} (h : a = b) : Ending.returned (.int k a) = .returned (.int k b) := by rw [h]
theorem ret_two {k l : IntKind} {a b c d : Int} (h : a = b) (h' : c = d) : Ending.returned (.tuple #[.int k a, .int l c]) = .returned (.tuple #[.int k b, .int l d]) := by rw [h, h']
theorem u64_wrap (n : Int) : IntKind.u64.wrap n = n % 18446744073709551616 := by kernel_rfl
theorem nlz_any (x : Nat) (hx : x < 18446744073709551616) (w : World) : Calls Tryz.prog 243 #[.int .u64 (x : Int)] w fun e w' => e = .returned (.int .u64 ((64 - blen x : Nat) : Int)) ∧ w = w' := by
 have hb := libBitLen x hx;have hle := blen_le64 hx;have HB := hid hb;clear hb;go_enter Tryz.func243, Tryz.ntmps243;go_wp2_with (go_at_call 276; refine (Tryz.bits_LeadingZeros _ _ (by omega) (by omega)).mono ?_; rintro e w1 ⟨rfl, rfl⟩; rw [Int.toNat_natCast, HB.out]);go_ret;refine ⟨ret_int (k := .u64) ?_, rfl⟩;omega
set_option maxRecDepth 100000 in
set_option maxHeartbeats 1000000 in
theorem divWW_norm (x1 x0 d : Nat) (hd1 : 9223372036854775808 ≤ d) (hd2 : d < 18446744073709551616) (h1 : x1 < d) (h0 : x0 < 18446744073709551616) (w : World) :
 Calls Tryz.prog 273 #[.int .u64 (x1 : Int), .int .u64 (x0 : Int), .int .u64 (d : Int), .int .u64 (recN d : Int)] w
  fun e w' => e = .returned (.tuple #[.int .u64 (((x1 * 18446744073709551616 + x0) / d : Nat) : Int), .int .u64 (((x1 * 18446744073709551616 + x0) % d : Nat) : Int)]) ∧ w = w' := by
 have hbl : blen d = 64 := blen_eq (b := 63) (by omega) (by omega);have HZ := nlz_any d hd2 w;rw [hbl] at HZ;have HZ := hid HZ;obtain ⟨t1, t0, c, q, dq1, dq0, b, r0, r1, e1, e2, e3, e4, hS⟩ := divSteps d x1 x0 hd1 hd2 h1 h0;obtain ⟨hend, hq, hr⟩ := divSteps_end hd1 hd2 h1 h0 hS;obtain ⟨m1, m2, m3⟩ := recN_spec hd1 hd2;have M1 := Tryz.bits_Mul (recN d) x1 m3 (by omega) w;rw [e1, e2] at M1;have A1 := bitsAdd t0 x0 0 (by omega) w;rw [hS.hc] at A1;have A2 := bitsAdd t1 x1 c hS.c1 w;rw [hS.hq] at A2;have M2 := Tryz.bits_Mul d q hd2 hS.ql w;rw [e3, e4] at M2;have S1 := bitsSub x0 dq0 0 (by omega) w;rw [hS.h0, hS.hb] at S1;have S2 := bitsSub x1 dq1 b hS.b1 w;rw [hS.h1] at S2;have hc1 := hS.c1; have hb1 := hS.b1; have hql := hS.ql; have hr0 := hS.r0l;have M1 := hid M1; have A1 := hid A1; have A2 := hid A2; have M2 := hid M2; have S1 := hid S1; have S2 := hid S2;generalize (x1 * 18446744073709551616 + x0) / d = Q at *
 generalize (x1 * 18446744073709551616 + x0) % d = R at *
 generalize (t0 + x0 + 0) % 18446744073709551616 = z1 at *
 generalize (t1 + x1 + c) / 18446744073709551616 = z2 at *
 generalize (if x1 < dq1 + b then 1 else 0 : Nat) = z3 at *
 generalize recN d = m at *
 clear hS e1 e2 e3 e4 m1 m2 hbl;have hend : ∃ v1 v2 : Nat, (r1 = 0 ∧ r0 < d ∧ q = Q ∧ r0 = R) ∨ (r1 = 0 ∧ d ≤ r0 ∧ q + 1 = Q ∧ r0 - d = R) ∨
  (r1 = 1 ∧ IntKind.u64.wrap ((r0 : Int) - (d : Int)) = (v1 : Int) ∧ v1 < d ∧ q + 1 = Q ∧ v1 = R) ∨ (r1 = 1 ∧ IntKind.u64.wrap ((r0 : Int) - (d : Int)) = (v1 : Int) ∧ d ≤ v1 ∧ v1 < 18446744073709551616 ∧ q + 2 = Q ∧ v1 - d = R) := by
  refine ⟨r0 + 18446744073709551616 - d, 0, ?_⟩;rw [u64_wrap];rcases hend with ⟨h1, g1, h2, h3⟩ | ⟨h1, g1, h2, h3⟩ | ⟨h1, g1, g2, h2, h3⟩ | ⟨h1, g1, g2, g3, h2, h3⟩
  · exact .inl ⟨h1, g1, h2.symm, h3.symm⟩
  · exact .inr (.inl ⟨h1, g1, h2.symm, h3.symm⟩)
  · exact .inr (.inr (.inl ⟨h1, by omega, g2, h2.symm, h3.symm⟩))
  · exact .inr (.inr (.inr ⟨h1, by omega, g2, g3, h2.symm, h3.symm⟩))
 obtain ⟨v1, v2, hend⟩ := hend;rcases hend with ⟨rfl, g1, rfl, rfl⟩ | ⟨rfl, g1, rfl, rfl⟩ | ⟨rfl, hw, g2, rfl, rfl⟩ | ⟨rfl, hw, g2, g3, rfl, rfl⟩
 all_goals
  go_enter Tryz.func273, Tryz.ntmps273;go_wp2_with fail;refine HZ.out.mono ?_;rintro e w1 ⟨rfl, rfl⟩;go_wp2_with fail;refine M1.out.mono ?_;rintro e w1 ⟨rfl, rfl⟩;go_wp2_with fail;refine A1.out.mono ?_;rintro e w1 ⟨rfl, rfl⟩;go_wp2_with fail;refine A2.out.mono ?_;rintro e w1 ⟨rfl, rfl⟩;go_wp2_with fail;refine M2.out.mono ?_;rintro e w1 ⟨rfl, rfl⟩;go_wp2_with fail;refine S1.out.mono ?_;rintro e w1 ⟨rfl, rfl⟩;go_wp2_with fail;refine S2.out.mono ?_;rintro e w1 ⟨rfl, rfl⟩;go_wp2_with fail;go_ret2;refine ⟨ret_two (k := .u64) (l := .u64) ?_ ?_, rfl⟩;· first | rfl | omega | (simp; done) | (simp; omega)
  · first | rfl | omega | (simp; done) | (simp; omega)
set_option maxRecDepth 100000 in
set_option maxHeartbeats 1000000 in
theorem bitsDiv_zero (x d : Nat) (hx : x < 18446744073709551616) (hd : 0 < d) (hd' : d < 18446744073709551616) (w : World) :
 Calls Tryz.prog 271 #[.int .u64 0, .int .u64 (x : Int), .int .u64 (d : Int)] w fun e w' => e = .returned (.tuple #[.int .u64 ((x / d : Nat) : Int), .int .u64 ((x % d : Nat) : Int)]) ∧ Fr NoB w w' := by
 have hd0 : ((d : Int) == 0) = false := by simp; omega
 have hd1 : ¬ ((d : Int) ≤ 0) := by omega
 have hd2 : ¬ (d : Int) = 0 := by omega
 have hq : x / d ≤ x := Nat.div_le_self _ _;have hwr : IntKind.u64.wrap ((x : Int) / (d : Int)) = ((x / d : Nat) : Int) := by
  rw [show ((x : Int) / (d : Int)) = ((x / d : Nat) : Int) by simp];generalize x / d = q at *
  have e : ∀ n : Int, IntKind.u64.wrap n = n % 18446744073709551616 := fun n => by kernel_rfl
  rw [e]; omega
 have HW := hid hwr;clear hwr hq;go_enter Tryz.func271, Tryz.ntmps271;go_wp2_with (go_at_call 299; go_in);go_quiet (fail);go_wp2_with fail;go_ret2;refine ⟨?_, ?_⟩;· rw [HW.out]; simp
 · exact (Fr.refl _ _).drewN _
theorem nlz_d (w : World) : Calls Tryz.prog 243 #[.int .u64 10000000000000000000] w fun e w' => e = .returned (.int .u64 0) ∧ w = w' := by
 have hb : Lib.bitLen (10000000000000000000 : Int).toNat = 64 := by decide +kernel
 have HB := hid hb;clear hb;go_enter Tryz.func243, Tryz.ntmps243;go_wp2_with (go_at_call 276; refine (Tryz.bits_LeadingZeros _ _ (by omega) (by omega)).mono ?_; rintro e w1 ⟨rfl, rfl⟩; rw [HB.out]);go_ret;exact ⟨rfl, rfl⟩
def DivOk (y rec : Nat) : Prop := ∀ (x1 x0 : Nat) (w : World), x1 < y → x0 < 18446744073709551616 →
 Calls Tryz.prog 273 #[.int .u64 (x1 : Int), .int .u64 (x0 : Int), .int .u64 (y : Int), .int .u64 (rec : Int)] w
  fun e w' => e = .returned (.tuple #[.int .u64 (((x1 * 18446744073709551616 + x0) / y : Nat) : Int), .int .u64 (((x1 * 18446744073709551616 + x0) % y : Nat) : Int)]) ∧ w = w'
def RecOk (y rec : Nat) : Prop := ∀ w : World, Calls Tryz.prog 272 #[.int .u64 (y : Int)] w fun e w' => e = .returned (.int .u64 (rec : Int)) ∧ Fr NoB w w'
def QuoAt (w : World) (g : Nat) (csz : Array Value) (zs : List Nat) (k : Nat) : Prop :=
 ∃ cs, w.heap[g]? = some (.cells cs 105 (0, 0)) ∧ cs.size = csz.size ∧ (∀ (j z : Nat), k ≤ j → zs[j]? = some z → cs[j]? = some (.int .u64 (z : Int))) ∧ ∀ j, j < k → cs[j]? = csz[j]?
theorem QuoAt.step {w : World} {g : Nat} {csz : Array Value} {zs : List Nat} {k z : Nat} (h : QuoAt w g csz zs (k + 1)) (hz : zs[k]? = some z) (hk : k < csz.size) :
 QuoAt (w.setCell ⟨g, k, none⟩ (.int .u64 (z : Int))) g csz zs k := by
 obtain ⟨cs, h1, h2, h3, h4⟩ := h;refine ⟨_, blk_set h1 k _, by rw [Array.size_setIfInBounds]; exact h2, fun j u hj hu => ?_, fun j hj => ?_⟩
 · rw [Array.getElem?_setIfInBounds];by_cases e : k = j
   · subst e;rw [hz] at hu;cases hu;rw [if_pos rfl, if_pos (by omega)]
   · rw [if_neg e];exact h3 j u (by omega) hu
 · rw [Array.getElem?_setIfInBounds, if_neg (by omega)];exact h4 j (by omega)
set_option maxRecDepth 100000 in
set_option maxHeartbeats 1000000 in
theorem divWVW_any (gz cz gx cx : Nat) (csz : Array Value) (xs : List Nat) (y rec : Nat) (w : World)
 (hz : w.heap[gz]? = some (.cells csz 105 (0, 0))) (hzn : xs.length ≤ csz.size) (hx : ∀ (j x : Nat), xs[j]? = some x → w.cell? ⟨gx, j, none⟩ = some (.int .u64 (x : Int)))
 (hb : ∀ x ∈ xs, x < 18446744073709551616) (hy : 0 < y) (hy' : y < 18446744073709551616) (hR : RecOk y rec) (hD : DivOk y rec) (hrec : rec < 18446744073709551616) (hl : 1 ≤ xs.length) (hlen : xs.length ≤ 1000000) :
 Calls Tryz.prog 240 #[.slice (some ⟨gz, 0, none⟩) xs.length cz, .int .u64 0, .slice (some ⟨gx, 0, none⟩) xs.length cx, .int .u64 (y : Int)] w
  fun e w' => e = .returned (.int .u64 ((nval xs % y : Nat) : Int)) ∧ QuoAt w' gz csz (divZ xs y) 0 ∧ Fr (fun i => i = gz) w w' := by
 have HZ := hid hz; have HX := hid hx; have HB := hid hb; have HR := hid hR; have HD := hid hD;clear hz hx hb hR hD;by_cases h1 : xs.length = 1
 · obtain ⟨x, rfl⟩ : ∃ x, xs = [x] := List.length_eq_one_iff.1 h1;have hxb : x < 18446744073709551616 := HB.out x (by simp);have c0 := HX.out 0 x rfl;obtain ⟨v0, hv0⟩ : ∃ u, csz[0]? = some u := ⟨_, Array.getElem?_eq_getElem (by simp at hzn; omega)⟩
   have hq : QuoAt w gz csz (divZ [x] y) 1 := ⟨csz, HZ.out, rfl, fun j z hj hh => by
    have := (List.getElem?_eq_some_iff.1 hh).1;rw [divZ_length] at this;simp at this; omega, fun j _ => rfl⟩
   have hdz : divZ [x] y = [x / y] := by simp [divZ, nval]
   have hnv : nval [x] % y = x % y := by simp [nval]
   have HQ := hid hq; have HDZ := hid hdz; have HNV := hid hnv;have HK := hid (bitsDiv_zero x y hxb hy hy');clear hq hdz hnv h1;rw [show ([x] : List Nat).length = 1 from rfl] at *
   go_enter Tryz.func240, Tryz.ntmps240;go_wp2_with fail;refine (HK.out _).mono ?_;rintro e w1 ⟨rfl, hF⟩;obtain ⟨cs, q1, q2, q3, q4⟩ := HQ.out;have hz1 := hF.blk HZ.out (fun h => h);have k0 : w1.cell? ⟨gz, 0, none⟩ = some v0 := by rw [blk_cell hz1]; exact hv0
   have f0 : w1.frozen? ⟨gz, 0, none⟩ = false := blk_frozen hz1 0;have hq1 : QuoAt w1 gz csz (divZ [x] y) (0 + 1) := ⟨cs, hF.blk q1 (fun h => h), q2, q3, q4⟩
   have hqs := hq1.step (z := x / y) (by rw [HDZ.out]; rfl) (by omega);have HQS := hid hqs;have HF := hid hF;clear hqs hq1 hF q1 q2 q3 q4;go_wp2_with fail;go_ret;refine ⟨by rw [HNV.out]; rfl, HQS.out, ?_⟩;exact Fr.setCell (S := fun i => i = gz) (p := ⟨gz, 0, none⟩) (HF.out.mono (fun _ _ h => h.elim)) (fun _ => rfl) _
 · have hl1 : ((xs.length : Int) == 1) = false := by simp; omega
   go_enter Tryz.func240, Tryz.ntmps240;go_wp2_with fail;refine (HR.out _).mono ?_;rintro e w1 ⟨rfl, hF⟩;have HF := hid hF;clear hF;have hq0 : QuoAt w1 gz csz (divZ xs y) xs.length := ⟨csz, HF.out.blk HZ.out (fun h => h), rfl, fun j z hj hh => by
    have := (List.getElem?_eq_some_iff.1 hh).1;rw [divZ_length] at this;omega, fun j _ => rfl⟩
   have HQ0 := hid hq0;clear hq0;go_wp2_with fail;go_loopw [8, 12] (fun r i wr => ∃ k : Nat, k ≤ xs.length ∧ i = .int .i64 ((k : Int) - 1) ∧ r = .int .u64 ((nval (xs.drop k) % y : Nat) : Int) ∧ Hid (QuoAt wr gz csz (divZ xs y) k) ∧ Hid (Fr (fun i => i = gz) w wr)) (fun _ i _ => (intOf i + 1).toNat);case atStart => exact ⟨xs.length, Nat.le_refl _, rfl, by simp [nval], HQ0, hid (HF.out.mono (fun _ _ h => h.elim))⟩
   case round =>
    obtain ⟨k, hk, rfl, rfl, hQ, hFr⟩ := hrel;by_cases h0 : k = 0;· subst h0;have hd0 : xs.drop 0 = xs := List.drop_zero;rw [hd0];clear hd0;go_wp2_with fail;go_ret;exact ⟨rfl, hQ.out, hFr.out⟩
    · obtain ⟨j, rfl⟩ : ∃ j, k = j + 1 := ⟨k - 1, by omega⟩
      rw [show (((j + 1 : Nat) : Int)) - 1 = (j : Int) by omega];obtain ⟨x, hxj⟩ : ∃ x, xs[j]? = some x := ⟨xs[j], List.getElem?_eq_getElem (by omega)⟩
      have hxb : x < 18446744073709551616 := HB.out x (List.mem_of_getElem? hxj);obtain ⟨cs, q1, q2, q3, q4⟩ := hQ.out;have hcell : wr.cell? ⟨gx, j, none⟩ = some (.int .u64 (x : Int)) := by
       by_cases e : gx = gz;· subst e;rw [blk_cell q1, q4 j (by omega), ← blk_cell HZ.out];exact HX.out j x hxj
       · exact hFr.out.cell' (HX.out j x hxj) e
      obtain ⟨v0, hv0⟩ : ∃ u, cs[j]? = some u := ⟨_, Array.getElem?_eq_getElem (by omega)⟩
      have k0 : wr.cell? ⟨gz, j, none⟩ = some v0 := by rw [blk_cell q1]; exact hv0
      have f0 : wr.frozen? ⟨gz, j, none⟩ = false := blk_frozen q1 j;have hget := divZ_get xs y j x hxj;have hnext : nval (xs.drop j) % y = ((nval (xs.drop (j + 1)) % y) * WB + x) % y := by rw [nval_drop xs j x hxj, nval_cons_mod]
      rw [WB_eq] at hget hnext;have hrl : nval (xs.drop (j + 1)) % y < y := Nat.mod_lt _ hy;have HN := hid hnext;have HK := HD.out (nval (xs.drop (j + 1)) % y) x wr hrl hxb;clear hnext hxj q1 q2 q3 q4 hv0;generalize nval (xs.drop (j + 1)) % y = rr at *
      have hrest : (rr * 18446744073709551616 + x) % y < y := Nat.mod_lt _ hy;generalize (rr * 18446744073709551616 + x) % y = r2 at *
      generalize (rr * 18446744073709551616 + x) / y = q at *
      have HST := hid (hQ.out.step hget (by omega));have HK := hid HK;clear hget;go_wp2_with fail;refine HK.out.mono ?_;rintro e w2 ⟨rfl, rfl⟩;go_wp2_with fail;go_roundw;case rel => exact ⟨j, by omega, by go_num, by rw [HN.out], hid HST.out, hid (Fr.setCell (S := fun i => i = gz) (p := ⟨gz, j, none⟩) hFr.out (fun _ => rfl) _)⟩
      case measure => simp [intOf]
def DivRes (w : World) (v : Value) (X y : Nat) (e : Ending) (w' : World) : Prop :=
 ∃ v', e = .returned (.tuple #[v', .int .u64 ((X % y : Nat) : Int)]) ∧ NatAt w' v' (limbs (X / y)) ∧ Fr (fun i => natBlk v = some i) w w' ∧ ∀ g, natBlk v' = some g → natBlk v = some g ∨ w.heap.size ≤ g
theorem QuoAt.nat {w : World} {g cap : Nat} {csz : Array Value} {X y : Nat} (h : QuoAt w g csz (divZ (limbs X) y) 0) (h1 : cap ≤ csz.size) (h2 : (limbs X).length ≤ cap) (h3 : cap ≤ 1000000) :
 NatAt w (.slice (some ⟨g, 0, none⟩) (limbs X).length cap) (divZ (limbs X) y) := by
 obtain ⟨cs, q1, q2, q3, q4⟩ := h;exact .inr ⟨g, cap, cs, by rw [divZ_length], q1, by omega, by rw [divZ_length]; exact h2, h3, fun j x hj => q3 j x (Nat.zero_le _) hj⟩
set_option maxRecDepth 100000 in
set_option maxHeartbeats 1000000 in
theorem natDivW (v vx : Value) (zs : List Nat) (X y rec : Nat) (w : World) (hv : NatAt w v zs) (hvx : NatAt w vx (limbs X)) (hy : 2 ≤ y) (hy' : y < 18446744073709551616) (hR : RecOk y rec) (hD : DivOk y rec) (hrec : rec < 18446744073709551616) (hl : (limbs X).length ≤ 900) :
 Calls Tryz.prog 208 #[v, vx, .int .u64 (y : Int)] w (DivRes w v X y) := by
 have HV := hid hv; have HR := hid hR; have HD := hid hD;have y0 : ((y : Int) == 0) = false := by simp; omega
 have y1 : ((y : Int) == 1) = false := by simp; omega
 rcases hvx with ⟨rfl, hx0⟩ | ⟨gx, capx, csx, rfl, hgx, x1, x2, x3, x4⟩
 · have hX : X = 0 := limbs_nil.1 hx0;subst hX;clear hR hD hx0;have hd : (0 : Nat) / y = 0 := Nat.zero_div y;have hm : (0 : Nat) % y = 0 := Nat.zero_mod y;rcases hv with ⟨rfl, rfl⟩ | ⟨g, cap, cs, rfl, hg, h1, h2, h3, h4⟩
   · have N : DivRes w (.slice none 0 0) 0 y (.returned (.tuple #[.slice none 0 0, .int .u64 0])) w := ⟨_, by rw [hm]; rfl, by rw [hd, limbs_zero]; exact NatAt.nil w, Fr.refl _ _, fun g h => by cases h⟩
     have N := hid N;clear hd hm;go_enter Tryz.func208, Tryz.ntmps208;go_wp2_with fail;go_ret2;exact N.out
   · have N : DivRes w (.slice (some ⟨g, 0, none⟩) zs.length cap) 0 y (.returned (.tuple #[.slice (some ⟨g, 0, none⟩) 0 cap, .int .u64 0])) w :=
      ⟨.slice (some ⟨g, 0, none⟩) 0 cap, by rw [hm]; rfl, by rw [hd, limbs_zero]; exact .inr ⟨g, cap, cs, rfl, hg, h1, Nat.zero_le _, h3, by simp⟩, Fr.refl _ _, fun k h => .inl h⟩
     have N := hid N;clear hd hm hg h4;go_enter Tryz.func208, Tryz.ntmps208;go_wp2_with fail;go_ret2;exact N.out
 · by_cases hX : X = 0
   · subst hX;have hl0 : (limbs 0).length = 0 := by rw [limbs_zero]; rfl
     rw [hl0] at *
     clear hR hD hgx x4 hl0;have hd : (0 : Nat) / y = 0 := Nat.zero_div y;have hm : (0 : Nat) % y = 0 := Nat.zero_mod y;rcases hv with ⟨rfl, rfl⟩ | ⟨g, cap, cs, rfl, hg, h1, h2, h3, h4⟩
     · have N : DivRes w (.slice none 0 0) 0 y (.returned (.tuple #[.slice none 0 0, .int .u64 0])) w := ⟨_, by rw [hm]; rfl, by rw [hd, limbs_zero]; exact NatAt.nil w, Fr.refl _ _, fun g h => by cases h⟩
       have N := hid N;clear hd hm;go_enter Tryz.func208, Tryz.ntmps208;go_wp2_with fail;go_ret2;exact N.out
     · have N : DivRes w (.slice (some ⟨g, 0, none⟩) zs.length cap) 0 y (.returned (.tuple #[.slice (some ⟨g, 0, none⟩) 0 cap, .int .u64 0])) w :=
        ⟨.slice (some ⟨g, 0, none⟩) 0 cap, by rw [hm]; rfl, by rw [hd, limbs_zero]; exact .inr ⟨g, cap, cs, rfl, hg, h1, Nat.zero_le _, h3, by simp⟩, Fr.refl _ _, fun k h => .inl h⟩
       have N := hid N;clear hd hm hg h4;go_enter Tryz.func208, Tryz.ntmps208;go_wp2_with fail;go_ret2;exact N.out
   · have hlen1 : 1 ≤ (limbs X).length := by
      have : limbs X ≠ [] := fun hh => hX (limbs_nil.1 hh)
      have : (limbs X).length ≠ 0 := fun hh => this (List.length_eq_zero_iff.1 hh)
      omega
     have hm1 : (((limbs X).length : Int) == 0) = false := beq_eq_false_iff_ne.2 (by omega);have HGX := hid hgx; have X4 := hid x4;have HLB : Hid (∀ x ∈ limbs X, x < 18446744073709551616) := hid (limbs_lt X);have HNV := hid (nval_limbs X);have HND := hid (normL_divZ X y (by omega));have HQN := hid (fun (w : World) (g cap : Nat) (csz : Array Value) (h : QuoAt w g csz (divZ (limbs X) y) 0) (h1 : cap ≤ csz.size) (h2 : (limbs X).length ≤ cap) (h3 : cap ≤ 1000000) => QuoAt.nat h h1 h2 h3);clear hv hR hD hgx x4 hX;generalize limbs X = xs at *
     go_enter Tryz.func208, Tryz.ntmps208;go_wp2_with fail;have HM := hid (natMake v zs xs.length w HV.out (by omega) (by omega));refine HM.out.mono ?_;clear HM;rintro e w1 ⟨g, cap, cs, rfl, hg, h1, h2, h3, hF, hgb⟩;have hgx1 := hF.blk HGX.out (fun h => h);have HC := hid (divWVW_any g cap gx capx cs xs y rec w1 hg (by omega) (fun j x hj => by rw [blk_cell hgx1]; exact X4.out j x hj) HLB.out (by omega) hy' HR.out HD.out hrec hlen1 (by omega));have HF := hid hF; have HGB := hid hgb;clear hF hgb hgx1 hg;go_wp2_with fail;refine HC.out.mono ?_;clear HC;rintro e w2 ⟨rfl, hq2, hF2⟩;have hat := HQN.out w2 g cap cs hq2 h1 h2 h3;have hFw : Fr (fun i => natBlk v = some i) w w2 := by
      refine Fr.trans (Fr.mono HF.out (fun _ _ h => h.elim)) hF2 (fun i hi h => ?_);subst h;exact HGB.out.resolve_right (Nat.not_le.2 hi)
     have HN := hid (natNorm _ _ _ hat);have fin : ∀ v' w3, Normed w2 (.slice (some ⟨g, 0, none⟩) xs.length cap) (divZ xs y) (.returned v') w3 → DivRes w v X y (.returned (.tuple #[v', .int .u64 ((nval xs % y : Nat) : Int)])) w3 := by
      rintro v' w3 ⟨rfl, u, hu, k1, k2⟩;cases hu;refine ⟨_, by rw [HNV.out], by rw [← HND.out]; exact k1, hFw, fun k hk => ?_⟩;rw [k2] at hk;cases hk;exact HGB.out
     have FIN := hid fin;clear hat hFw fin hq2 hF2;generalize nval xs % y = rr at *
     go_wp2_with fail;refine HN.out.mono ?_;rintro e w3 ⟨hw, v', rfl, k1, k2⟩;have N := hid (FIN.out v' w3 ⟨hw, v', rfl, k1, k2⟩);clear hw k1 k2;go_wp2_with fail;go_ret2;exact N.out
theorem lz64_d (w : World) : Calls Tryz.prog 318 #[.int .u64 10000000000000000000] w fun e w' => e = .returned (.int .i64 0) ∧ w = w' := by
 have k : wrap64 (64 - wrap64 (56 + wrap64 (Lib.len8 138))) = 0 := by kernel_rfl
 have K := hid k;clear k;go_enter Tryz.func318, Tryz.ntmps318;go_wp2_with (go_at_call 223; go_in);go_ret;refine ⟨?_, rfl⟩;show Ending.returned (.int .i64 (wrap64 (64 - wrap64 (56 + wrap64 (Lib.len8 138))))) = _;rw [K.out]
set_option maxRecDepth 100000 in
set_option maxHeartbeats 1000000 in
theorem div_d (w : World) : Calls Tryz.prog 271 #[.int .u64 8446744073709551615, .int .u64 18446744073709551615, .int .u64 10000000000000000000] w fun e w' => (∃ r, e = .returned (.tuple #[.int .u64 15581492618384294730, r])) ∧ Fr NoB w w' := by
 have e1 : bits .and .u64 10000000000000000000 4294967295 = 2313682944 := by kernel_rfl
 have e2 : bits .and .u64 18446744073709551615 4294967295 = 4294967295 := by kernel_rfl
 have e3 : bits .or .u64 8446744073709551615 0 = 8446744073709551615 := by kernel_rfl
 go_enter Tryz.func271, Tryz.ntmps271;go_wp2_with (first | (go_at_call 299; go_in) | (go_at_call 318; refine (lz64_d _).mono ?_; rintro e w1 ⟨rfl, rfl⟩));go_rounds 3
 go_rounds 3
 go_ret2;exact ⟨⟨_, rfl⟩, Fr.refl _ _⟩
set_option maxRecDepth 100000 in
set_option maxHeartbeats 1000000 in
theorem recip_d (w : World) : Calls Tryz.prog 272 #[.int .u64 10000000000000000000] w fun e w' => e = .returned (.int .u64 15581492618384294730) ∧ Fr NoB w w' := by
 have x1 : bits .xor .u64 IntKind.u64.max 10000000000000000000 = 8446744073709551615 := by kernel_rfl
 go_enter Tryz.func272, Tryz.ntmps272;go_wp2_with (go_at_call 243; refine (nlz_d _).mono ?_; rintro e w1 ⟨rfl, rfl⟩);refine (div_d _).mono ?_;rintro e w1 ⟨⟨r, rfl⟩, hF⟩;go_wp2_with fail;go_ret;exact ⟨rfl, hF⟩
theorem recN_d : recN 10000000000000000000 = 15581492618384294730 := by decide +kernel
theorem recOk_d : RecOk 10000000000000000000 15581492618384294730 := fun w => recip_d w
theorem divOk_d : DivOk 10000000000000000000 15581492618384294730 := fun x1 x0 w h1 h0 => by
 have h := divWW_norm x1 x0 10000000000000000000 (by omega) (by omega) h1 h0 w;rw [recN_d] at h;exact h
def DigAt (w : World) (gs : Nat) (n0 I i N : Nat) : Prop := ∃ cs, w.heap[gs]? = some (.cells cs 5 (0, 0)) ∧ cs.size = n0 ∧ DigsFrom cs I i N
theorem DigAt.step {w : World} {gs n0 I i N : Nat} (h : DigAt w gs n0 I (i + 1) N) (hi : i < I) (hs : I ≤ n0) (d : Nat) (hd : d = 48 + N / 10 ^ (I - 1 - i) % 10) :
 DigAt (w.setCell ⟨gs, i, none⟩ (.int .u8 (d : Int))) gs n0 I i N := by
 obtain ⟨cs, h1, h2, h3⟩ := h;exact ⟨_, blk_set h1 i _, by rw [Array.size_setIfInBounds]; exact h2, h3.set hi (by omega) d hd⟩
def ConvEnd (w : World) (vq : Value) (gs n0 I N : Nat) (e : Ending) (w' : World) : Prop :=
 e = .returned (.tuple #[]) ∧ DigAt w' gs n0 I 0 N ∧ Fr (fun i => natBlk vq = some i ∨ i = gs) w w'
theorem NatAt.shape {w : World} {v : Value} {xs : List Nat} (h : NatAt w v xs) : ∃ A c, v = .slice A xs.length c := by
 rcases h with ⟨rfl, rfl⟩ | ⟨g, cap, cs, rfl, _⟩
 · exact ⟨_, _, rfl⟩
 · exact ⟨_, _, rfl⟩
theorem limbs_len_zero {n : Nat} (h : n = 0) : (limbs n).length = 0 := by subst h; rw [limbs_zero]; rfl
theorem limbs_len_pos {n : Nat} (h : n ≠ 0) : 1 ≤ (limbs n).length := by
 have h1 : limbs n ≠ [] := fun hh => h (limbs_nil.1 hh)
 have h2 : (limbs n).length ≠ 0 := fun hh => h1 (List.length_eq_zero_iff.1 hh)
 omega
theorem limbs_len_mono : ∀ (b a : Nat), a ≤ b → (limbs a).length ≤ (limbs b).length := by
 intro b;induction b using Nat.strongRecOn with
 | ind b ih =>
  intro a h;by_cases ha : a = 0;· subst ha; rw [limbs_zero]; simp
  · have hb : b ≠ 0 := by omega
    rw [limbs_pos ha, limbs_pos hb, List.length_cons, List.length_cons];have := ih (b / WB) (Nat.div_lt_self (by omega) (by decide)) (a / WB) (Nat.div_le_div_right h);omega
def ConvAt (w0 : World) (vq : Value) (gs n0 I N k m i0 : Nat) (q : Value) (wr : World) : Prop :=
 k = N / 10 ^ (19 * m) ∧ i0 ≤ I ∧ (i0 = 0 ∨ I = i0 + 19 * m) ∧ NatAt wr q (limbs (N / 10 ^ (19 * m))) ∧ (∀ g, natBlk q = some g → natBlk vq = some g ∨ w0.heap.size ≤ g) ∧ DigAt wr gs n0 I i0 N ∧ Fr (fun i => natBlk vq = some i ∨ i = gs) w0 wr
def ConvIn (w0 : World) (gs n0 I N m i0 jj rr : Nat) (wr : World) : Prop :=
 (i0 = 0 ∨ (I = i0 + (19 * m + jj) ∧ rr = N / 10 ^ (19 * m) % 10000000000000000000 / 10 ^ jj)) ∧ DigAt wr gs n0 I i0 N ∧ Fr (fun i => i = gs) w0 wr
set_option maxRecDepth 100000 in
set_option maxHeartbeats 1000000 in
theorem convertWords10 (vq stk : Value) (N gs I caps : Nat) (cs0 : Array Value) (w : World) (hq : NatAt w vq (limbs N)) (hs : w.heap[gs]? = some (.cells cs0 5 (0, 0))) (hI : I ≤ cs0.size)
 (hqs : ∀ g, natBlk vq = some g → g ≠ gs) (hl : (limbs N).length ≤ 900) (hI' : I ≤ 1000000) :
 Calls Tryz.prog 186 #[vq, stk, .slice (some ⟨gs, 0, none⟩) I caps, .int .u64 10, .int .i64 19, .int .u64 10000000000000000000, .slice none 0 0] w (ConvEnd w vq gs cs0.size I N) := by
 have HQ := hid hq; have HS := hid hs; have HQS := hid hqs;have hne : ∀ w : World, (binOp .neq 233 (.slice none 0 0) (.slice none 0 0)).run Tryz.prog w = .ok (.bool false) w := fun w => run_neq_slice_nil_any w 233 _ none 0 0 0 0 Tryz.underlying233
 clear hq hs hqs;go_enter Tryz.func186, Tryz.ntmps186;go_wp2_with fail;go_loopg [0, 19, 20] N (fun k q i r wr => ∃ (m i0 rr : Nat), i = .int .i64 i0 ∧ r = .int .u64 rr ∧ Hid (ConvAt w vq gs cs0.size I N k m i0 q wr));case atStart => exact ⟨0, I, 0, rfl, rfl, hid ⟨by simp, Nat.le_refl _, .inr (by omega), by simpa using HQ.out, fun g h => .inl h, ⟨cs0, HS.out, rfl, DigsFrom.start _ _ _⟩, Fr.refl _ _⟩⟩
 case round =>
  obtain ⟨m, i0, rr, rfl, rfl, hC⟩ := hrel;obtain ⟨hk, hi0, hoff, hnat, hblk, hdig, hFr⟩ := hC.out;obtain ⟨A, c, rfl⟩ := hnat.shape;have hlen : (limbs (N / 10 ^ (19 * m))).length ≤ 900 := Nat.le_trans (limbs_len_mono _ _ (Nat.div_le_self _ _)) hl;obtain ⟨wo, rfl⟩ : ∃ wo : World, wo = wr := ⟨_, rfl⟩
  have HNAT := hid hnat; have HBLK := hid hblk; have HDIG := hid hdig; have HFR := hid hFr; have HOFF := hid hoff; have HK := hid hk;clear hnat hblk hdig hFr hC hk hoff;by_cases hM : N / 10 ^ (19 * m) = 0
  · have hl0 := limbs_len_zero hM;have HM := hid hM;generalize (limbs (N / 10 ^ (19 * m))).length = n at *
    subst hl0;clear hM;go_wp2_with fail;go_loopw [19] (fun i wr => ∃ i1 : Nat, i = .int .i64 i1 ∧ i1 ≤ i0 ∧ Hid (DigAt wr gs cs0.size I i1 N) ∧ Hid (Fr (fun i => natBlk vq = some i ∨ i = gs) w wr)) (fun i _ => (intOf i).toNat);case atStart => exact ⟨i0, rfl, Nat.le_refl _, HDIG, HFR⟩
    case round =>
     obtain ⟨i1, rfl, hi1, hD1, hF1⟩ := hrel;by_cases h0 : i1 = 0;· subst h0;go_wp2_with fail;go_end0;exact ⟨rfl, hD1.out, hF1.out⟩
     · obtain ⟨i2, rfl⟩ : ∃ i2, i1 = i2 + 1 := ⟨i1 - 1, by omega⟩
       obtain ⟨cs, d1, d2, d3⟩ := hD1.out;obtain ⟨v0, hv0⟩ : ∃ u, cs[i2]? = some u := ⟨_, Array.getElem?_eq_getElem (by omega)⟩
       have k0 : wr.cell? ⟨gs, i2, none⟩ = some v0 := by rw [blk_cell d1]; exact hv0
       have f0 : wr.frozen? ⟨gs, i2, none⟩ = false := blk_frozen d1 i2;have hz : N / 10 ^ (I - 1 - i2) % 10 = 0 := by
        rcases HOFF.out with h | h;· omega
        · exact zero_above HM.out (by omega)
       have HST := hid (hD1.out.step (by omega) hI 48 (by rw [hz]));clear d1 d2 d3 hv0 hz;go_wp2_with fail;go_roundw;case rel => exact ⟨i2, by go_num, by omega, hid HST.out, hid (Fr.setCell (S := fun i => natBlk vq = some i ∨ i = gs) (p := ⟨gs, i2, none⟩) hF1.out (fun _ => .inr rfl) _)⟩
       case measure => simp [intOf]
  · have hl1 := limbs_len_pos hM;have HD := natDivW (.slice A (limbs (N / 10 ^ (19 * m))).length c) (.slice A (limbs (N / 10 ^ (19 * m))).length c) _ (N / 10 ^ (19 * m)) 10000000000000000000 15581492618384294730 wo HNAT.out HNAT.out (by omega) (by omega) recOk_d divOk_d (by omega) hlen;have HD := hid HD;have HM := hid hM;clear hM;generalize hn : (limbs (N / 10 ^ (19 * m))).length = n at *
    clear hn;have hRl : N / 10 ^ (19 * m) % 10000000000000000000 < 10000000000000000000 := Nat.mod_lt _ (by omega);have hR0 := hid (show N / 10 ^ (19 * m) % 10000000000000000000 = N / 10 ^ (19 * m) % 10000000000000000000 / 10 ^ 0 by simp);have HIN := hid (fun jj hj => digit_in N m jj hj);unfold DivRes at HD;obtain ⟨R, hR⟩ : ∃ R, N / 10 ^ (19 * m) % 10000000000000000000 = R := ⟨_, rfl⟩
    rw [hR] at HD hRl;have HR := hid hR;clear hR;go_wp2_with fail;refine HD.out.mono ?_;rintro e w2 ⟨q2, rfl, hnat2, hF2, hblk2⟩;have hgs0 : gs < w.heap.size := blk_lt HS.out;have hqgs : ∀ g, natBlk (.slice A n c) = some g → g ≠ gs := fun g hg => by
     rcases HBLK.out g hg with h | h;· exact HQS.out g h
     · omega
    have hdig2 : DigAt w2 gs cs0.size I i0 N := by
     obtain ⟨cs, d1, d2, d3⟩ := HDIG.out;exact ⟨cs, hF2.blk d1 (fun h => hqgs gs h rfl), d2, d3⟩
    have hq2gs : ∀ g, natBlk q2 = some g → (natBlk vq = some g ∨ w.heap.size ≤ g) := fun g hg => by
     rcases hblk2 g hg with h | h;· exact HBLK.out g h
     · have := HFR.out.size; exact .inr (by omega)
    have hF02 : Fr (fun i => natBlk vq = some i ∨ i = gs) w w2 := HFR.out.trans hF2 (fun i hi h => by
     rcases HBLK.out i h with h | h;· exact .inl h
     · omega)
    have HDIG2 := hid hdig2; have HQ2 := hid hq2gs; have HF02 := hid hF02; have HN2 := hid hnat2;clear hdig2 hq2gs hF02 hnat2 hF2 hblk2 hqgs HDIG HFR HBLK HNAT HD;go_wp2_with fail;go_loopw [19, 20, 21] (fun i r j wr => ∃ (i1 rr jj : Nat), i = .int .i64 i1 ∧ r = .int .u64 rr ∧ j = .int .i64 jj ∧ i1 ≤ i0 ∧ rr < 10000000000000000000 ∧ jj ≤ 19 ∧ Hid (ConvIn w2 gs cs0.size I N m i1 jj rr wr)) (fun _ _ j _ => 19 - (intOf j).toNat);case atStart => exact ⟨i0, R, 0, rfl, rfl, rfl, Nat.le_refl _, hRl, Nat.zero_le _, hid ⟨HOFF.out.imp (fun h => h) (fun h => ⟨by omega, by rw [← HR.out]; exact hR0.out⟩), HDIG2.out, Fr.refl _ _⟩⟩
    case round =>
     obtain ⟨i1, rr', jj, rfl, rfl, rfl, hi1, hrr, hjj, hC⟩ := hrel;obtain ⟨hoff1, hdig1, hFr1⟩ := hC.out;by_cases h0 : jj < 19 ∧ 0 < i1
     · obtain ⟨hj19, hipos⟩ := h0;obtain ⟨i2, rfl⟩ : ∃ i2, i1 = i2 + 1 := ⟨i1 - 1, by omega⟩
       have hoff2 := hoff1.resolve_left (by omega);obtain ⟨o1, o2⟩ := hoff2;obtain ⟨cs, d1, d2, d3⟩ := hdig1;obtain ⟨v0, hv0⟩ : ∃ u, cs[i2]? = some u := ⟨_, Array.getElem?_eq_getElem (by omega)⟩
       have k0 : wr.cell? ⟨gs, i2, none⟩ = some v0 := by rw [blk_cell d1]; exact hv0
       have f0 : wr.frozen? ⟨gs, i2, none⟩ = false := blk_frozen d1 i2;have hdg : 48 + rr' % 10 = 48 + N / 10 ^ (I - 1 - i2) % 10 := by
        rw [o2, HIN.out jj hj19, show I - 1 - i2 = 19 * m + jj by omega]
       have hst := hC.out.2.1.step (i := i2) (by omega) hI (48 + rr' % 10) hdg;rw [show ((48 + rr' % 10 : Nat) : Int) = 48 + ((rr' : Int) - (rr' : Int) / 10 * 10) by omega] at hst;have hnx : rr' / 10 = N / 10 ^ (19 * m) % 10000000000000000000 / 10 ^ (jj + 1) := by rw [o2, rest_step]
       have HST := hid hst; have HNX := hid hnx; have HF1 := hid hFr1; have HO1 := hid o1;clear hst hnx hFr1 o1 o2 d1 d2 d3 hv0 hdg hoff1 hC;go_wp2_with fail;go_roundw;case rel =>
        refine ⟨i2, rr' / 10, jj + 1, by go_num, by simp, by go_num, by omega, by omega, by omega, hid ⟨.inr ⟨by have := HO1.out; omega, HNX.out⟩, HST.out, ?_⟩⟩;exact Fr.setCell (S := fun i => i = gs) (p := ⟨gs, i2, none⟩) HF1.out (fun _ => rfl) _
       case measure => simp [intOf]; omega
     · have hdone : i1 = 0 ∨ I = i1 + 19 * (m + 1) := by
        rcases hoff1 with h | ⟨h, _⟩
        · exact .inl h
        · by_cases hz : i1 = 0
          · exact .inl hz
          · exact .inr (by omega)
       have HDN := hid hdone; have HD1 := hid hdig1; have HF1 := hid hFr1;have hend : jj = 19 ∨ (jj < 19 ∧ i1 = 0) := by omega
       clear hdone hdig1 hFr1 hoff1 hC h0;have fin : Hid (N / 10 ^ (19 * (m + 1)) < gk ∧ ConvAt w vq gs cs0.size I N (N / 10 ^ (19 * (m + 1))) (m + 1) i1 q2 wr) := by
        refine hid ⟨?_, rfl, by omega, HDN.out, ?_, HQ2.out, HD1.out, ?_⟩;· rw [HK.out, ← quot_step];exact Nat.div_lt_self (Nat.pos_of_ne_zero HM.out) (by omega)
        · rw [← quot_step];exact HN2.out.fr HF1.out (fun g hg h => by
           have h : g = gs := h;rcases HQ2.out g hg with h2 | h2;· exact HQS.out g h2 h
           · omega)
        · exact HF02.out.trans HF1.out (fun i hi h => .inr h)
       clear HDN HD1 HF1 HN2 HQ2 HF02 HDIG2;rcases hend with rfl | ⟨hj, rfl⟩
       · go_wp2_with fail;go_roundg (N / 10 ^ (19 * (m + 1)));case measure => exact fin.out.1
         case rel => exact ⟨m + 1, i1, rr', rfl, rfl, hid fin.out.2⟩
       · go_wp2_with fail;go_roundg (N / 10 ^ (19 * (m + 1)));case measure => exact fin.out.1
         case rel => exact ⟨m + 1, 0, rr', rfl, rfl, hid fin.out.2⟩
theorem Fr.setRow {S : Nat → Prop} {a w : World} (h : Fr S a w) {g : Nat} (hp : g < a.heap.size → S g) (cs : Array Value) : Fr S a (w.setRow g cs) :=
 ⟨h.os, h.tape, h.output, by have := h.size; simp [World.setRow]; omega, fun k hk hn => by
  by_cases e : k = g;· subst e; exact absurd (hp hk) hn
  · exact (setRow_other w g k cs e).trans (h.block k hk hn)⟩
theorem Tryz.size105 : (Tryz.prog.info? 105).map (·.size) = some 1 := by kernel_rfl
theorem NatAt.cell {w : World} {v : Value} {xs : List Nat} (h : NatAt w v xs) (hne : xs ≠ []) : ∃ g cap, v = .slice (some ⟨g, 0, none⟩) xs.length cap ∧ (∀ (j x : Nat), xs[j]? = some x → w.cell? ⟨g, j, none⟩ = some (.int .u64 (x : Int))) ∧ xs.length ≤ cap ∧ g < w.heap.size ∧ cap ≤ 1000000 ∧ natBlk v = some g := by
 rcases h with ⟨_, h⟩ | ⟨g, cap, cs, rfl, hg, h1, h2, h3, h4⟩
 · exact absurd h hne
 · exact ⟨g, cap, rfl, fun j x hj => by rw [blk_cell hg]; exact h4 j x hj, h2, blk_lt hg, h3, rfl⟩
def RowRes (w : World) (v : Value) (xs : List Nat) (e : Ending) (w' : World) : Prop :=
 ∃ v', e = .returned v' ∧ NatAt w' v' xs ∧ Fr (fun i => natBlk v = some i) w w' ∧ ∀ g, natBlk v' = some g → natBlk v = some g ∨ w.heap.size ≤ g
theorem list_take_drop {cs : List Value} {cur : Array Value} (h : cs.length ≤ cur.size) : (∀ (j : Nat) (v : Value), cs[j]? = some v → ((cs ++ cur.toList.drop cs.length).toArray)[j]? = some v) ∧ (cs ++ cur.toList.drop cs.length).toArray.size = cur.size := by
 constructor;· intro j v hj;have hlt := (List.getElem?_eq_some_iff.1 hj).1;simp [List.getElem?_append, hlt];exact (List.getElem?_eq_some_iff.1 hj).2
 · simp; omega
set_option maxRecDepth 100000 in
set_option maxHeartbeats 1000000 in
theorem natSet (v vx : Value) (zs xs : List Nat) (w : World) (hv : NatAt w v zs) (hvx : NatAt w vx xs) (hl : xs.length ≤ 900) :
 Calls Tryz.prog 110 #[v, vx] w (RowRes w v xs) := by
 by_cases hne : xs = []
 · subst hne;obtain ⟨A, c, rfl⟩ := hvx.shape;have HV := hid hv;rcases hv with ⟨rfl, rfl⟩ | ⟨g, cap, cs, rfl, hg, h1, h2, h3, h4⟩
   · have N : RowRes w (.slice none 0 0) [] (.returned (.slice none 0 0)) w := ⟨_, rfl, NatAt.nil w, Fr.refl _ _, fun g h => by cases h⟩
     have N := hid N;clear hvx;rw [show ([] : List Nat).length = 0 from rfl] at *
     go_enter Tryz.func110, Tryz.ntmps110;go_wp2_with (first | (go_at_call 153; go_in) | (refine wpList_copy_nothing rfl (.tmp 9) (.tmp 10) 66 66 rfl 105 Tryz.underlying66 Tryz.size105 _ _ _ _ _ _ rfl rfl rfl ?_));go_ret;exact N.out
   · have N : RowRes w (.slice (some ⟨g, 0, none⟩) zs.length cap) [] (.returned (.slice (some ⟨g, 0, none⟩) 0 cap)) w :=
      ⟨.slice (some ⟨g, 0, none⟩) 0 cap, rfl, .inr ⟨g, cap, cs, rfl, hg, h1, Nat.zero_le _, h3, by simp⟩, Fr.refl _ _, fun k h => .inl h⟩
     have N := hid N;clear hvx hg h4;rw [show ([] : List Nat).length = 0 from rfl] at *
     go_enter Tryz.func110, Tryz.ntmps110;go_wp2_with (first | (go_at_call 153; go_in) | (refine wpList_copy_nothing rfl (.tmp 9) (.tmp 10) 66 66 rfl 105 Tryz.underlying66 Tryz.size105 _ _ _ _ _ _ rfl rfl rfl ?_));go_ret;exact N.out
 · obtain ⟨gx, capx, rfl, hcx, hcap, hgx, hcm, _⟩ := hvx.cell hne;have hl1 : 1 ≤ xs.length := by
    have : xs.length ≠ 0 := fun hh => hne (List.length_eq_zero_iff.1 hh)
    omega
   have HM := hid (natMake v zs xs.length w hv (by omega) (by omega));have HCX := hid hcx;clear hcx hvx hv;go_enter Tryz.func110, Tryz.ntmps110;go_wp2_with fail;refine HM.out.mono ?_;clear HM;rintro e w1 ⟨g, cap, cs, rfl, hg, h1, h2, h3, hF, hgb⟩;have hsrc : ∀ (j : Nat) (u : Value), (u64s xs)[j]? = some u → w1.cell? ((⟨gx, 0, none⟩ : Addr).add j) = some u := fun j u hj => by
    rw [add_plain, Nat.zero_add];rw [u64s_get] at hj;obtain ⟨x, hx, rfl⟩ := Option.map_eq_some_iff.1 hj;exact hF.cell' (HCX.out j x hx) (fun h => h)
   have h1c : ∀ u ∈ u64s xs, u.oneCell' = true := fun u hu => by
    obtain ⟨x, _, rfl⟩ := List.mem_map.1 hu;rfl
   have hlen : (u64s xs).length = xs.length := u64s_length xs;obtain ⟨t1, t2⟩ := list_take_drop (cs := u64s xs) (cur := cs) (by omega);have hat : NatAt (w1.setRow g (u64s xs ++ cs.toList.drop (u64s xs).length).toArray) (.slice (some ⟨g, 0, none⟩) xs.length cap) xs :=
    .inr ⟨g, cap, _, rfl, setRow_heap w1 g _ _ _ _ hg, by omega, h2, h3, fun j x hj => t1 j _ (by rw [u64s_get, hj]; rfl)⟩
   have N : RowRes w v xs (.returned (.slice (some ⟨g, 0, none⟩) xs.length cap)) (w1.setRow g (u64s xs ++ cs.toList.drop (u64s xs).length).toArray) :=
    ⟨_, rfl, hat, Fr.setRow (hF.mono (fun _ _ h => h.elim)) (fun hlt => hgb.resolve_right (Nat.not_le.2 hlt)) _, fun k hk => by cases hk; exact hgb⟩
   have N := hid N;have HG := hid hg; have HS := hid hsrc; have H1C := hid h1c; have HL := hid hlen;clear hat t1 t2 hF hgb hg hsrc h1c hlen;have C1 : Hid ((u64s xs).length = Nat.min xs.length xs.length) := hid (by rw [HL.out]; exact (Nat.min_self _).symm);have C2 : Hid (0 + (u64s xs).length ≤ cs.size) := hid (by rw [HL.out]; omega);go_wp2_with (refine wpList_copy_own rfl (.tmp 9) (.tmp 10) 66 66 rfl 105 Tryz.underlying66 Tryz.size105 g 0 xs.length cap ⟨gx, 0, none⟩ xs.length capx rfl rfl cs 105 HG.out (u64s xs) C1.out HS.out C2.out H1C.out ?_);go_ret;exact N.out
end Go.Proofs.YteokhhepnoelhaaGreatDoor
