/-
  Plain arithmetic of the division of words: the reciprocal, the guess, the steps of divWW.
-/
import Derived.Test.YteokhhepnoelhaaGreatDoorNatB
set_option linter.unusedVariables false
set_option linter.unusedSimpArgs false
namespace Go.Proofs.YteokhhepnoelhaaGreatDoor

/-- The reciprocal word of a divisor of 64 bits. -/
def recN (d : Nat) : Nat := 340282366920938463463374607431768211455 / d - 18446744073709551616

theorem recN_spec {d : Nat} (h1 : 9223372036854775808 ≤ d) (h2 : d < 18446744073709551616) :
    d * (recN d + 18446744073709551616) ≤ 340282366920938463463374607431768211455 ∧ 340282366920938463463374607431768211455 < d * (recN d + 18446744073709551616) + d ∧ recN d < 18446744073709551616 := by
  have hq : 18446744073709551616 ≤ 340282366920938463463374607431768211455 / d := (Nat.le_div_iff_mul_le (by omega)).2 (by omega)
  have e : recN d + 18446744073709551616 = 340282366920938463463374607431768211455 / d := by unfold recN; omega
  have hm := Nat.div_add_mod 340282366920938463463374607431768211455 d
  have hl := Nat.mod_lt 340282366920938463463374607431768211455 (show d > 0 by omega)
  have h3 : 340282366920938463463374607431768211455 / d < 36893488147419103232 := (Nat.div_lt_iff_lt_mul (by omega)).2 (by omega)
  rw [e]
  refine ⟨by omega, by omega, by omega⟩

/-- The guess of divWW: at most the quotient, and the rest is below 2^64 + d. -/
theorem guess_any {d M x1 x0 q : Nat} (hd0 : 0 < d) (hd : d ≤ 18446744073709551616) (hM : d * M ≤ 340282366920938463463374607431768211455) (hM' : 340282366920938463463374607431768211455 < d * M + d)
    (h1 : x1 < d) (h0 : x0 < 18446744073709551616) (hq : 18446744073709551616 * q ≤ M * x1 + x0) (hq' : M * x1 + x0 < 18446744073709551616 * q + 18446744073709551616) :
    d * q ≤ x1 * 18446744073709551616 + x0 ∧ x1 * 18446744073709551616 + x0 < d * q + (18446744073709551616 + d) := by
  have k1 := Nat.mul_le_mul_left d hq
  have k2 := Nat.mul_le_mul_right x1 hM
  have k3 := Nat.mul_le_mul_right x0 hd
  have k4 := Nat.mul_lt_mul_of_pos_left hq' hd0
  have k5 : 340282366920938463463374607431768211456 * x1 ≤ (d * M + d) * x1 := Nat.mul_le_mul_right x1 hM'
  obtain ⟨e, he⟩ : ∃ e, e + d = 18446744073709551616 := ⟨18446744073709551616 - d, by omega⟩
  have k6 : e * x0 ≤ e * 18446744073709551616 := Nat.mul_le_mul_left e (by omega)
  have k7 : d * x1 ≤ d * 18446744073709551616 := Nat.mul_le_mul_left d (by omega)
  have k8 : (e + d) * x0 = 18446744073709551616 * x0 := by rw [he]
  have a1 : d * (M * x1 + x0) = d * M * x1 + d * x0 := by rw [Nat.mul_add, Nat.mul_assoc]
  have a2 : d * (18446744073709551616 * q + 18446744073709551616) = 18446744073709551616 * (d * q) + 18446744073709551616 * d := by rw [Nat.mul_add, Nat.mul_left_comm, Nat.mul_comm d 18446744073709551616]
  have a3 : d * (18446744073709551616 * q) = 18446744073709551616 * (d * q) := Nat.mul_left_comm _ _ _
  rw [a1, a3] at k1
  rw [a1, a2] at k4
  rw [Nat.add_mul] at k5 k8
  clear a1 a2 a3
  generalize d * q = dq at *
  generalize d * M * x1 = dmx at *
  generalize d * x0 = dx0 at *
  generalize d * x1 = dx1 at *
  generalize e * x0 = ex0 at *
  constructor
  · omega
  · omega

/-- The steps of divWW, as numbers. -/
structure DivSteps (d x1 x0 t1 t0 c q dq1 dq0 b r0 r1 : Nat) : Prop where
  hq : (t1 + x1 + c) % 18446744073709551616 = q
  hc : (t0 + x0 + 0) / 18446744073709551616 = c
  c1 : c ≤ 1
  b1 : b ≤ 1
  ql : q < 18446744073709551616
  r0l : r0 < 18446744073709551616
  r1l : r1 ≤ 1
  hb : (if x0 < dq0 + 0 then 1 else 0) = b
  h0 : (x0 + 18446744073709551616 - dq0 - 0) % 18446744073709551616 = r0
  h1 : (x1 + 18446744073709551616 - dq1 - b) % 18446744073709551616 = r1
  dq : d * q + (r1 * 18446744073709551616 + r0) = x1 * 18446744073709551616 + x0
  rl : r1 * 18446744073709551616 + r0 < 18446744073709551616 + d

theorem small_any {X D n : Nat} (g1 : D ≤ X) (g2 : X < D + n) : X - D < n := by omega
theorem divSteps (d x1 x0 : Nat) (hd1 : 9223372036854775808 ≤ d) (hd2 : d < 18446744073709551616) (h1 : x1 < d) (h0 : x0 < 18446744073709551616) :
    ∃ t1 t0 c q dq1 dq0 b r0 r1, (recN d * x1 / 18446744073709551616 = t1) ∧ (recN d * x1 % 18446744073709551616 = t0) ∧ (d * q / 18446744073709551616 = dq1) ∧ (d * q % 18446744073709551616 = dq0) ∧ DivSteps d x1 x0 t1 t0 c q dq1 dq0 b r0 r1 := by
  obtain ⟨m1, m2, m3⟩ := recN_spec hd1 hd2
  generalize recN d = m at *
  obtain ⟨t1, ht1⟩ : ∃ t1, m * x1 / 18446744073709551616 = t1 := ⟨_, rfl⟩
  obtain ⟨t0, ht0⟩ : ∃ t0, m * x1 % 18446744073709551616 = t0 := ⟨_, rfl⟩
  obtain ⟨c, hc⟩ : ∃ c, (t0 + x0 + 0) / 18446744073709551616 = c := ⟨_, rfl⟩
  have g := guess_any (q := t1 + c + x1) (by omega) (by omega) m1 m2 h1 h0 (by rw [Nat.add_mul]; generalize m * x1 = z at *; omega) (by rw [Nat.add_mul]; generalize m * x1 = z at *; omega)
  obtain ⟨q, hq⟩ : ∃ q, (t1 + x1 + c) % 18446744073709551616 = q := ⟨_, rfl⟩
  have hlt : t1 + c + x1 < 18446744073709551616 := by
    refine Nat.lt_of_not_le (fun hh => ?_)
    have h3 := Nat.mul_le_mul_left d hh
    have h4 : x1 * 18446744073709551616 + x0 < d * 18446744073709551616 := by omega
    omega
  have hqq : t1 + c + x1 = q := by omega
  rw [hqq] at g
  obtain ⟨g1, g2⟩ := g
  obtain ⟨dq1, hd1⟩ : ∃ n, d * q / 18446744073709551616 = n := ⟨_, rfl⟩
  obtain ⟨dq0, hd0⟩ : ∃ n, d * q % 18446744073709551616 = n := ⟨_, rfl⟩
  obtain ⟨b, hb⟩ : ∃ n, (if x0 < dq0 + 0 then 1 else 0) = n := ⟨_, rfl⟩
  obtain ⟨r0, hr0⟩ : ∃ n, (x0 + 18446744073709551616 - dq0 - 0) % 18446744073709551616 = n := ⟨_, rfl⟩
  obtain ⟨r1, hr1⟩ : ∃ n, (x1 + 18446744073709551616 - dq1 - b) % 18446744073709551616 = n := ⟨_, rfl⟩
  have hb1 : b ≤ 1 := by split at hb <;> omega
  have e1 : 18446744073709551616 * dq1 + dq0 = d * q := by omega
  have hd0l : dq0 < 18446744073709551616 := by omega
  generalize hD : d * q = D at *
  have hx1 : dq1 ≤ x1 := by omega
  have key : r1 * 18446744073709551616 + r0 = x1 * 18446744073709551616 + x0 - D ∧ r1 ≤ 1 ∧ r0 < 18446744073709551616 := by
    by_cases hlt : x0 < dq0 + 0
    · rw [if_pos hlt] at hb
      have a1 : r0 = x0 + 18446744073709551616 - dq0 := by omega
      have a2 : dq1 + 1 ≤ x1 := by omega
      have a3 : r1 = x1 - dq1 - 1 := by omega
      omega
    · rw [if_neg hlt] at hb
      have a1 : r0 = x0 - dq0 := by omega
      have a3 : r1 = x1 - dq1 := by omega
      omega
  obtain ⟨k1, k2, k3⟩ := key
  have f1 : D + (r1 * 18446744073709551616 + r0) = x1 * 18446744073709551616 + x0 := by omega
  have f2 : r1 * 18446744073709551616 + r0 < 18446744073709551616 + d := k1 ▸ small_any g1 g2
  have f3 : c ≤ 1 := by omega
  have hql : q < 18446744073709551616 := by omega
  subst hD
  have st : DivSteps d x1 x0 t1 t0 c q dq1 dq0 b r0 r1 := ⟨hq, hc, f3, hb1, hql, k3, k2, hb, hr0, hr1, f1, f2⟩
  exact ⟨t1, t0, c, q, dq1, dq0, b, r0, r1, ht1, ht0, hd1, hd0, st⟩

theorem div_of_eq {d q r X : Nat} (h : d * q + r = X) (hr : r < d) : X / d = q ∧ X % d = r := by
  subst h
  constructor
  · rw [Nat.mul_add_div (by omega), Nat.div_eq_of_lt hr, Nat.add_zero]
  · rw [Nat.mul_add_mod, Nat.mod_eq_of_lt hr]

theorem words_lt {x1 x0 d : Nat} (h1 : x1 < d) (h0 : x0 < 18446744073709551616) : x1 * 18446744073709551616 + x0 < d * 18446744073709551616 := by omega

/-- What divWW ends with, in its three ways. -/
theorem divSteps_end {d x1 x0 t1 t0 c q dq1 dq0 b r0 r1 : Nat} (hd1 : 9223372036854775808 ≤ d) (hd2 : d < 18446744073709551616) (hx : x1 < d) (h0 : x0 < 18446744073709551616) (h : DivSteps d x1 x0 t1 t0 c q dq1 dq0 b r0 r1) :
    ((r1 = 0 ∧ r0 < d ∧ (x1 * 18446744073709551616 + x0) / d = q ∧ (x1 * 18446744073709551616 + x0) % d = r0) ∨
     (r1 = 0 ∧ d ≤ r0 ∧ (x1 * 18446744073709551616 + x0) / d = q + 1 ∧ (x1 * 18446744073709551616 + x0) % d = r0 - d) ∨
     (r1 = 1 ∧ r0 < d ∧ r0 + 18446744073709551616 - d < d ∧ (x1 * 18446744073709551616 + x0) / d = q + 1 ∧ (x1 * 18446744073709551616 + x0) % d = r0 + 18446744073709551616 - d) ∨
     (r1 = 1 ∧ r0 < d ∧ d ≤ r0 + 18446744073709551616 - d ∧ r0 + 18446744073709551616 - d < 18446744073709551616 ∧ (x1 * 18446744073709551616 + x0) / d = q + 2 ∧ (x1 * 18446744073709551616 + x0) % d = r0 + 18446744073709551616 - d - d)) ∧
    (x1 * 18446744073709551616 + x0) / d < 18446744073709551616 ∧ (x1 * 18446744073709551616 + x0) % d < d := by
  have hdq := h.dq
  have hrl := h.rl
  have hr0 := h.r0l
  have hr1 := h.r1l
  refine ⟨?_, ?_, Nat.mod_lt _ (by omega)⟩
  · by_cases hz : r1 = 0
    · subst hz
      by_cases hlt : r0 < d
      · obtain ⟨a, b⟩ := div_of_eq (d := d) (q := q) (r := r0) (X := x1 * 18446744073709551616 + x0) (by omega) hlt
        exact .inl ⟨rfl, hlt, a, b⟩
      · obtain ⟨a, b⟩ := div_of_eq (d := d) (q := q + 1) (r := r0 - d) (X := x1 * 18446744073709551616 + x0) (by rw [Nat.mul_add]; omega) (by omega)
        exact .inr (.inl ⟨rfl, by omega, a, b⟩)
    · obtain rfl : r1 = 1 := by omega
      by_cases hlt : r0 + 18446744073709551616 - d < d
      · obtain ⟨a, b⟩ := div_of_eq (d := d) (q := q + 1) (r := r0 + 18446744073709551616 - d) (X := x1 * 18446744073709551616 + x0) (by rw [Nat.mul_add]; omega) (by omega)
        exact .inr (.inr (.inl ⟨rfl, by omega, hlt, a, b⟩))
      · obtain ⟨a, b⟩ := div_of_eq (d := d) (q := q + 2) (r := r0 + 18446744073709551616 - d - d) (X := x1 * 18446744073709551616 + x0) (by rw [Nat.mul_add]; omega) (by omega)
        exact .inr (.inr (.inr ⟨rfl, by omega, by omega, by omega, a, b⟩))
  · exact Nat.div_lt_of_lt_mul (words_lt hx h0)

/-! ### The quotient's digits -/
def divZ : List Nat → Nat → List Nat
  | [], _ => []
  | x :: xs, y => ((nval xs % y) * WB + x) / y :: divZ xs y
theorem divZ_length (xs : List Nat) (y : Nat) : (divZ xs y).length = xs.length := by
  induction xs with
  | nil => rfl
  | cons x xs ih => simp [divZ, ih]
theorem nval_cons_eq (x : Nat) (xs : List Nat) (y : Nat) : nval (x :: xs) = y * (WB * (nval xs / y)) + ((nval xs % y) * WB + x) := by
  have := Nat.div_add_mod (nval xs) y
  rw [nval]
  generalize nval xs / y = q at *
  generalize nval xs % y = r at *
  rw [← this, Nat.mul_add, Nat.mul_left_comm, Nat.mul_comm WB r]
  omega
theorem nval_divZ (xs : List Nat) (y : Nat) (hy : 0 < y) : nval (divZ xs y) = nval xs / y := by
  induction xs with
  | nil => simp [divZ, nval]
  | cons x xs ih =>
    rw [nval_cons_eq x xs y, Nat.mul_add_div hy, divZ, nval, ih]
    omega
theorem nval_cons_mod (x : Nat) (xs : List Nat) (y : Nat) : nval (x :: xs) % y = ((nval xs % y) * WB + x) % y := by
  rw [nval_cons_eq x xs y, Nat.mul_add_mod]
theorem divZ_lt (xs : List Nat) (y : Nat) (hy : 0 < y) (h : ∀ x ∈ xs, x < WB) : ∀ z ∈ divZ xs y, z < WB := by
  induction xs with
  | nil => simp [divZ]
  | cons x xs ih =>
    intro z hz
    rw [divZ] at hz
    rcases List.mem_cons.1 hz with rfl | hz
    · have hx := h x (by simp)
      have hr := Nat.mod_lt (nval xs) hy
      rw [Nat.div_lt_iff_lt_mul hy]
      have h3 : (nval xs % y + 1) * WB ≤ y * WB := Nat.mul_le_mul_right WB hr
      rw [Nat.add_mul] at h3
      rw [Nat.mul_comm WB y]
      omega
    · exact ih (fun u hu => h u (by simp [hu])) z hz
theorem divZ_get (xs : List Nat) (y : Nat) : ∀ (j x : Nat), xs[j]? = some x → (divZ xs y)[j]? = some (((nval (xs.drop (j + 1)) % y) * WB + x) / y) := by
  induction xs with
  | nil => intro j x h; simp at h
  | cons u xs ih =>
    intro j x h
    cases j with
    | zero => simp at h; subst h; simp [divZ]
    | succ j => simp at h; simp [divZ, ih j x h]
theorem nval_drop (xs : List Nat) (j x : Nat) (h : xs[j]? = some x) : xs.drop j = x :: xs.drop (j + 1) := by
  obtain ⟨h1, h2⟩ := List.getElem?_eq_some_iff.1 h
  rw [List.drop_eq_getElem_cons h1, h2]
theorem normL_divZ (X y : Nat) (hy : 0 < y) : normL (divZ (limbs X) y) = limbs (X / y) := by
  rw [normL_limbs _ (divZ_lt _ y hy (limbs_lt X)), nval_divZ _ y hy, nval_limbs]
end Go.Proofs.YteokhhepnoelhaaGreatDoor
