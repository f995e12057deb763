/-
  Plain arithmetic of the product of two rows of words.
-/
import Derived.Test.YteokhhepnoelhaaGreatDoorNatB
set_option linter.unusedVariables false
set_option linter.unusedSimpArgs false
namespace Go.Proofs.YteokhhepnoelhaaGreatDoor

/-- x + y * m + c, word for word: what addMulVVWW leaves, and its carry. -/
def amZ : List Nat → List Nat → Nat → Nat → List Nat
  | x :: xs, y :: ys, m, c => (y * m + x + c) % WB :: amZ xs ys m ((y * m + x + c) / WB)
  | _, _, _, _ => []
def amC : List Nat → List Nat → Nat → Nat → Nat
  | x :: xs, y :: ys, m, c => amC xs ys m ((y * m + x + c) / WB)
  | _, _, _, c => c

theorem amZ_length (xs : List Nat) : ∀ (ys : List Nat) (m c : Nat), xs.length = ys.length → (amZ xs ys m c).length = xs.length := by
  induction xs with
  | nil => intro ys m c h; cases ys <;> rfl
  | cons x xs ih =>
    intro ys m c h
    cases ys with
    | nil => simp at h
    | cons y ys => simp [amZ, ih ys m _ (by simpa using h)]
theorem am_snoc (xs : List Nat) (x y m : Nat) : ∀ (ys : List Nat) (c : Nat), xs.length = ys.length →
    amZ (xs ++ [x]) (ys ++ [y]) m c = amZ xs ys m c ++ [(y * m + x + amC xs ys m c) % WB] ∧ amC (xs ++ [x]) (ys ++ [y]) m c = (y * m + x + amC xs ys m c) / WB := by
  induction xs with
  | nil =>
    intro ys c h
    cases ys with
    | nil => exact ⟨rfl, rfl⟩
    | cons y ys => simp at h
  | cons u xs ih =>
    intro ys c h
    cases ys with
    | nil => simp at h
    | cons v ys =>
      obtain ⟨a, b⟩ := ih ys ((v * m + u + c) / WB) (by simpa using h)
      simp [amZ, amC, a, b]
theorem am_carry {x y m c : Nat} (hx : x < WB) (hy : y < WB) (hm : m < WB) (hc : c < WB) : (y * m + x + c) / WB < WB := by
  rw [Nat.div_lt_iff_lt_mul WB_pos]
  have h1 : y * m ≤ (WB - 1) * (WB - 1) := Nat.mul_le_mul (by omega) (by omega)
  have h2 : WB * WB = (WB - 1) * (WB - 1) + 2 * WB - 1 := by decide
  omega
theorem amC_lt (xs : List Nat) (m : Nat) (hm : m < WB) : ∀ (ys : List Nat) (c : Nat), c < WB → (∀ x ∈ xs, x < WB) → (∀ y ∈ ys, y < WB) → amC xs ys m c < WB := by
  induction xs with
  | nil => intro ys c hc _ _; cases ys <;> exact hc
  | cons x xs ih =>
    intro ys c hc hx hy
    cases ys with
    | nil => exact hc
    | cons y ys =>
      exact ih ys _ (am_carry (hx x (by simp)) (hy y (by simp)) hm hc) (fun u hu => hx u (by simp [hu])) (fun u hu => hy u (by simp [hu]))
theorem amZ_lt (xs : List Nat) (m : Nat) : ∀ (ys : List Nat) (c : Nat), ∀ u ∈ amZ xs ys m c, u < WB := by
  induction xs with
  | nil => intro ys c u hu; cases ys <;> simp [amZ] at hu
  | cons x xs ih =>
    intro ys c u hu
    cases ys with
    | nil => simp [amZ] at hu
    | cons y ys =>
      rcases List.mem_cons.1 hu with rfl | hu
      · exact Nat.mod_lt _ WB_pos
      · exact ih _ _ u hu
theorem nval_append (xs ys : List Nat) : nval (xs ++ ys) = nval xs + WB ^ xs.length * nval ys := by
  induction xs with
  | nil => simp [nval]
  | cons x xs ih => rw [List.cons_append, nval, nval, ih, List.length_cons, Nat.pow_succ, Nat.mul_add, ← Nat.mul_assoc, Nat.mul_comm WB (WB ^ _), Nat.add_assoc]
theorem nval_am (xs : List Nat) (m : Nat) : ∀ (ys : List Nat) (c : Nat), xs.length = ys.length → nval (amZ xs ys m c ++ [amC xs ys m c]) = nval xs + nval ys * m + c := by
  induction xs with
  | nil =>
    intro ys c h
    cases ys with
    | nil => simp [amZ, amC, nval]
    | cons y ys => simp at h
  | cons x xs ih =>
    intro ys c h
    cases ys with
    | nil => simp at h
    | cons y ys =>
      rw [amZ, amC, List.cons_append, nval, ih ys _ (by simpa using h), nval, nval]
      have := Nat.div_add_mod (y * m + x + c) WB
      generalize (y * m + x + c) / WB = q at *
      generalize (y * m + x + c) % WB = r at *
      rw [Nat.mul_add, Nat.mul_add, Nat.add_mul, Nat.mul_assoc]
      omega
theorem nval_zeros (n : Nat) : nval (List.replicate n 0) = 0 := by
  induction n with
  | zero => rfl
  | succ n ih => rw [List.replicate_succ, nval, ih, Nat.mul_zero]

/-- One word of the sum, as bits.Add and mulAddWWW_g give it. -/
theorem amStep (x y m c : Nat) (hx : x < WB) (hy : y < WB) (hm : m < WB) (hc : c < WB) :
    ((y * m + x) % WB + c + 0) / WB + (y * m + x) / WB = (y * m + x + c) / WB ∧ ((y * m + x) % WB + c + 0) % WB = (y * m + x + c) % WB ∧ (y * m + x + c) / WB < WB := by
  have e : y * m + x = WB * ((y * m + x) / WB) + (y * m + x) % WB := (Nat.div_add_mod _ _).symm
  refine ⟨?_, ?_, am_carry hx hy hm hc⟩
  · generalize y * m + x = s at *
    generalize s / WB = q at *
    generalize s % WB = r at *
    rw [e, Nat.add_zero, Nat.add_assoc, Nat.mul_add_div WB_pos, Nat.add_comm]
  · generalize y * m + x = s at *
    generalize s / WB = q at *
    generalize s % WB = r at *
    rw [e, Nat.add_zero, Nat.add_assoc, Nat.mul_add_mod]

theorem nval_take_succ (ys : List Nat) (k y : Nat) (h : ys[k]? = some y) : nval (ys.take (k + 1)) = nval (ys.take k) + WB ^ k * y := by
  have hk := (List.getElem?_eq_some_iff.1 h).1
  rw [List.take_add_one, h, nval_append, List.length_take, Nat.min_eq_left (by omega)]
  simp [nval]

/-- A row's step: the low k words stand, the next n get a word's product, one word more gets the carry. -/
theorem row_step {k n : Nat} {lo mid ys : List Nat} {X Y y : Nat} (hlo : lo.length = k) (hmid : mid.length = n) (hys : ys.length = n) (hX : nval ys = X)
    (hv : nval (lo ++ mid) = X * Y) : nval (lo ++ (amZ mid ys y 0 ++ [amC mid ys y 0])) = X * (Y + WB ^ k * y) := by
  rw [nval_append] at hv ⊢
  rw [nval_am _ _ _ _ (by omega), hX, Nat.add_zero, hlo, Nat.mul_add, ← Nat.add_assoc]
  rw [hlo] at hv
  rw [hv, Nat.mul_add, Nat.mul_left_comm]
end Go.Proofs.YteokhhepnoelhaaGreatDoor
