/-
  Plain facts on decimal digits: how many, the leading one, digits laid from the back; how many places nat.itoa makes.
-/
import Derived.Test.YteokhhepnoelhaaGreatDoorBitLen
set_option linter.unusedVariables false
set_option linter.unusedSimpArgs false
namespace Go.Proofs.YteokhhepnoelhaaGreatDoor
open Go.Lib

theorem pow_le_nDigits : ∀ (n u : Nat), u ≤ n → u ≠ 0 → 10 ^ (nDigits u - 1) ≤ u
  | 0, u, h, h0 => absurd (by omega) h0
  | n + 1, u, h, h0 => by
    by_cases hs : u < 10
    · rw [nDigits_small hs]; simp; omega
    · rw [nDigits_big hs, Nat.add_sub_cancel]
      have ih := pow_le_nDigits n (u / 10) (by omega) (by omega)
      have hp := nDigits_pos (u / 10)
      obtain ⟨k, hk⟩ : ∃ k, nDigits (u / 10) = k + 1 := ⟨nDigits (u / 10) - 1, by omega⟩
      rw [hk, Nat.add_sub_cancel] at ih
      rw [hk, Nat.pow_succ]
      omega
theorem nDigits_le {u k : Nat} (h0 : u ≠ 0) (h : u < 10 ^ k) : nDigits u ≤ k := by
  have h1 := pow_le_nDigits u u (Nat.le_refl _) h0
  refine Nat.le_of_not_lt (fun hh => ?_)
  have : 10 ^ k ≤ 10 ^ (nDigits u - 1) := Nat.pow_le_pow_right (by omega) (by omega)
  omega
theorem lead_digit {u : Nat} (h0 : u ≠ 0) : u / 10 ^ (nDigits u - 1) % 10 ≠ 0 := by
  have h1 := pow_le_nDigits u u (Nat.le_refl _) h0
  have h2 := lt_pow_nDigits u
  have hp := nDigits_pos u
  obtain ⟨k, hk⟩ : ∃ k, nDigits u = k + 1 := ⟨nDigits u - 1, by omega⟩
  rw [hk, Nat.add_sub_cancel] at h1 ⊢
  rw [hk, Nat.pow_succ] at h2
  have hpos : 0 < 10 ^ k := Nat.pow_pos (by omega)
  have h3 : 1 ≤ u / 10 ^ k := (Nat.le_div_iff_mul_le hpos).2 (by omega)
  have h4 : u / 10 ^ k < 10 := (Nat.div_lt_iff_lt_mul hpos).2 (by omega)
  omega

/-- How many places nat.itoa makes room for. -/
def places (n : Nat) : Nat := blen n * 30103 / 100000 + 1
theorem places_all : (List.range 300).all (fun b => decide (2 ^ b ≤ 10 ^ (b * 30103 / 100000 + 1))) = true := by kernel_rfl
theorem lt_places {n : Nat} (hb : blen n < 300) : n < 10 ^ places n := by
  have h := of_decide_eq_true (List.all_eq_true.1 places_all (blen n) (by simpa using hb))
  by_cases h0 : n = 0
  · subst h0; exact Nat.pow_pos (by omega)
  · have := (blen_bounds h0).2.1
    unfold places
    omega

/-- Digits laid from the back: the places from i on. -/
def DigsFrom (cs : Array Value) (I i N : Nat) : Prop := ∀ j, i ≤ j → j < I → cs[j]? = some (.int .u8 ((48 + N / 10 ^ (I - 1 - j) % 10 : Nat) : Int))
theorem DigsFrom.start (cs : Array Value) (I N : Nat) : DigsFrom cs I I N := fun j h1 h2 => by omega
theorem DigsFrom.set {cs : Array Value} {I i N : Nat} (h : DigsFrom cs I (i + 1) N) (hi : i < I) (hs : I ≤ cs.size) (d : Nat) (hd : d = 48 + N / 10 ^ (I - 1 - i) % 10) :
    DigsFrom (cs.setIfInBounds i (.int .u8 (d : Int))) I i N := by
  intro j h1 h2
  rw [Array.getElem?_setIfInBounds]
  by_cases e : i = j
  · subst e
    rw [if_pos rfl, if_pos (by omega), hd]
  · rw [if_neg e]
    exact h j (by omega) h2

/-- A digit within a round of nineteen. -/
theorem digit_in (N m j : Nat) (hj : j < 19) : N / 10 ^ (19 * m) % 10000000000000000000 / 10 ^ j % 10 = N / 10 ^ (19 * m + j) % 10 := by
  have e : (10000000000000000000 : Nat) = 10 ^ j * 10 ^ (19 - j) := by rw [← Nat.pow_add, show j + (19 - j) = 19 by omega]
  rw [e, Nat.mod_mul_right_div_self, Nat.div_div_eq_div_mul, ← Nat.pow_add]
  obtain ⟨k, hk⟩ : ∃ k, 19 - j = k + 1 := ⟨18 - j, by omega⟩
  rw [hk, Nat.pow_succ]
  exact Nat.mod_mul_left_mod _ _ _
theorem quot_step (N m : Nat) : N / 10 ^ (19 * m) / 10000000000000000000 = N / 10 ^ (19 * (m + 1)) := by
  rw [Nat.div_div_eq_div_mul, show (10000000000000000000 : Nat) = 10 ^ 19 by decide, ← Nat.pow_add, show 19 * (m + 1) = 19 * m + 19 by omega]
theorem rest_step (R j : Nat) : R / 10 ^ j / 10 = R / 10 ^ (j + 1) := by
  rw [Nat.div_div_eq_div_mul, Nat.pow_succ]
theorem zero_above {N k p : Nat} (h : N / 10 ^ k = 0) (hp : k ≤ p) : N / 10 ^ p % 10 = 0 := by
  have h1 : N < 10 ^ k := by
    rcases Nat.div_eq_zero_iff.1 h with h | h
    · exact absurd h (Nat.ne_of_gt (Nat.pow_pos (by omega)))
    · exact h
  have h2 : 10 ^ k ≤ 10 ^ p := Nat.pow_le_pow_right (by omega) hp
  rw [Nat.div_eq_of_lt (by omega)]

/-- The digits of N as bytes, place for place. -/
theorem decDigits_get (N t : Nat) (ht : t < nDigits N) : ∃ b : UInt8, (decDigits N)[t]? = some b ∧ b.toNat = 48 + N / 10 ^ (nDigits N - 1 - t) % 10 := by
  refine ⟨dg N (nDigits N - 1 - t), ?_, ?_⟩
  · rw [decDigits_eq]
    simp [ht]
  · unfold dg
    have : N / 10 ^ (nDigits N - 1 - t) % 10 < 10 := Nat.mod_lt _ (by omega)
    simp [UInt8.toNat_ofNat']
    omega
end Go.Proofs.YteokhhepnoelhaaGreatDoor
