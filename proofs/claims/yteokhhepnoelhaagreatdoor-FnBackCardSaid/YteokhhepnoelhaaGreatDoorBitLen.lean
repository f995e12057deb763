/-
  nat.bitLen.
-/
import Derived.Test.YteokhhepnoelhaaGreatDoorNatB
import Derived.Test.YteokhhepnoelhaaGreatDoorShelfBits
import Derived.Lib.ItoaNum
set_option linter.unusedVariables false
set_option linter.unusedSimpArgs false
namespace Go.Proofs.YteokhhepnoelhaaGreatDoor
open Go.RowKit

/-- How many bits a number has. -/
def blen (n : Nat) : Nat := if n = 0 then 0 else n.log2 + 1
theorem blen_eq {n b : Nat} (h1 : 2 ^ b ≤ n) (h2 : n < 2 ^ (b + 1)) : blen n = b + 1 := by
  have h0 : n ≠ 0 := by have := Nat.pow_pos (n := b) (show 0 < 2 by omega); omega
  unfold blen
  rw [if_neg h0, (Nat.log2_eq_iff h0).2 ⟨h1, h2⟩]
theorem blen_bounds {n : Nat} (h0 : n ≠ 0) : 2 ^ (blen n - 1) ≤ n ∧ n < 2 ^ blen n ∧ 1 ≤ blen n := by
  unfold blen
  rw [if_neg h0]
  have := (Nat.log2_eq_iff h0).1 rfl
  exact ⟨this.1, this.2, by omega⟩

/-- The greatest limb. -/
theorem limbs_top : ∀ n : Nat, n ≠ 0 → ∃ m x, (limbs n).length = m + 1 ∧ (limbs n)[m]? = some x ∧ x ≠ 0 ∧ x < WB ∧ x * WB ^ m ≤ n ∧ n < (x + 1) * WB ^ m := by
  intro n
  induction n using Nat.strongRecOn with
  | ind n ih =>
    intro h0
    have hW : 0 < WB := by rw [WB_eq]; omega
    have hdm := Nat.div_add_mod n WB
    have hmod := Nat.mod_lt n hW
    rw [limbs_pos h0]
    by_cases hd : n / WB = 0
    · rw [hd, limbs_zero]
      refine ⟨0, n % WB, rfl, rfl, ?_, hmod, ?_, ?_⟩
      · rw [hd] at hdm; omega
      · rw [hd] at hdm; simp; omega
      · rw [hd] at hdm; simp; omega
    · obtain ⟨m, x, h1, h2, h3, h4, h5, h6⟩ := ih (n / WB) (Nat.div_lt_self (by omega) (by rw [WB_eq]; omega)) hd
      refine ⟨m + 1, x, by rw [List.length_cons, h1], by rw [List.getElem?_cons_succ]; exact h2, h3, h4, ?_, ?_⟩
      · rw [Nat.pow_succ, ← Nat.mul_assoc]
        have := Nat.mul_le_mul_right WB h5
        rw [Nat.mul_comm (n / WB) WB] at this
        omega
      · rw [Nat.pow_succ, ← Nat.mul_assoc]
        have : (n / WB + 1) * WB ≤ ((x + 1) * WB ^ m) * WB := Nat.mul_le_mul_right WB h6
        rw [Nat.add_mul, Nat.mul_comm (n / WB) WB] at this
        omega

theorem blen_limbs {n m x : Nat} (hx : x ≠ 0) (h5 : x * WB ^ m ≤ n) (h6 : n < (x + 1) * WB ^ m) : blen n = m * 64 + blen x := by
  obtain ⟨b1, b2, b3⟩ := blen_bounds hx
  have hW : WB ^ m = 2 ^ (m * 64) := by
    rw [WB_eq, show (18446744073709551616 : Nat) = 2 ^ 64 from rfl, ← Nat.pow_mul, Nat.mul_comm]
  rw [hW] at h5 h6
  have hp : 0 < 2 ^ (m * 64) := Nat.pow_pos (by omega)
  have k1 : 2 ^ (m * 64 + (blen x - 1)) ≤ n := by
    rw [Nat.pow_add, Nat.mul_comm]
    exact Nat.le_trans (Nat.mul_le_mul_right _ b1) h5
  have k2 : n < 2 ^ (m * 64 + (blen x - 1) + 1) := by
    have e : m * 64 + (blen x - 1) + 1 = m * 64 + blen x := by omega
    rw [e, Nat.pow_add, Nat.mul_comm]
    exact Nat.lt_of_lt_of_le h6 (Nat.mul_le_mul_right _ b2)
  rw [blen_eq k1 k2]
  omega

theorem blen_smear (x k : Nat) : blen (x ||| x / 2 ^ k) = blen x := by
  by_cases h : x = 0
  · subst h; simp
  · obtain ⟨b1, b2, b3⟩ := blen_bounds h
    have hdiv : x / 2 ^ k ≤ x := Nat.div_le_self _ _
    have hlt : (x ||| x / 2 ^ k) < 2 ^ blen x := Nat.or_lt_two_pow b2 (by omega)
    have hge : x ≤ (x ||| x / 2 ^ k) := Nat.left_le_or
    have e : blen x = blen x - 1 + 1 := by omega
    rw [blen_eq (b := blen x - 1) (by omega) (by rw [← e]; exact hlt)]
    omega
theorem libBitLen (x : Nat) (hx : x < 18446744073709551616) : Lib.bitLen x = blen x := by
  by_cases h : x = 0
  · subst h; simp [Lib.bitLen, Lib.bitLenAux_zero, blen]
  · have := Lib.bitLenAux_bounds 64 x hx h
    unfold Lib.bitLen
    have e : Lib.bitLenAux 64 x = Lib.bitLenAux 64 x - 1 + 1 := by omega
    rw [blen_eq (b := Lib.bitLenAux 64 x - 1) this.2.1 (by rw [← e]; exact this.2.2)]
    omega
def smear (x k : Nat) : Nat := x ||| x / 2 ^ k
theorem smear_lt {x k : Nat} (hx : x < 18446744073709551616) : smear x k < 18446744073709551616 := by
  have hdiv : x / 2 ^ k ≤ x := Nat.div_le_self _ _
  exact Nat.or_lt_two_pow (n := 64) hx (by omega)
theorem or_smear (x k q : Nat) (hq : q = 2 ^ k) (hx : x < 18446744073709551616) : bits .or .u64 (x : Int) ((x : Int) / (q : Int)) = ((smear x k : Nat) : Int) := by
  have hdiv : x / q ≤ x := Nat.div_le_self _ _
  rw [show ((x : Int) / (q : Int)) = ((x / q : Nat) : Int) by simp]
  rw [u64_or_nat x (x / q) (by omega) (by omega)]
  subst hq
  rfl

set_option maxRecDepth 100000 in
set_option maxHeartbeats 1000000 in
theorem natBitLen (v : Value) (n : Nat) (w : World) (hv : NatAt w v (limbs n)) :
    Calls Tryz.prog 156 #[v] w fun e w' => e = .returned (.int .i64 (blen n)) ∧ w = w' := by
  rcases hv with ⟨rfl, hx0⟩ | ⟨gx, capx, csx, rfl, hgx, x1, x2, x3, x4⟩
  · have hn := limbs_nil.1 hx0
    subst hn
    go_enter Tryz.func156, Tryz.ntmps156
    go_wp2
    go_ret
    exact ⟨rfl, rfl⟩
  · by_cases h0 : n = 0
    · subst h0
      have hl0 : (limbs 0).length = 0 := by rw [limbs_zero]; rfl
      rw [hl0] at *
      go_enter Tryz.func156, Tryz.ntmps156
      go_wp2
      go_ret
      exact ⟨rfl, rfl⟩
    · obtain ⟨m, x, h1, h2, h3, h4, h5, h6⟩ := limbs_top n h0
      have hx : w.cell? ⟨gx, m, none⟩ = some (.int .u64 x) := by rw [blk_cell hgx]; exact x4 m x h2
      have hbl := blen_limbs h3 h5 h6
      rw [h1] at x2 ⊢
      have hb : (m : Int) ≤ 1000000 := by omega
      rw [WB_eq] at h4
      have s1 := smear_lt (x := x) (k := 1) h4
      have s2 := smear_lt (x := smear x 1) (k := 2) s1
      have s3 := smear_lt (x := smear (smear x 1) 2) (k := 4) s2
      have s4 := smear_lt (x := smear (smear (smear x 1) 2) 4) (k := 8) s3
      have s5 := smear_lt (x := smear (smear (smear (smear x 1) 2) 4) 8) (k := 16) s4
      have s6 := smear_lt (x := smear (smear (smear (smear (smear x 1) 2) 4) 8) 16) (k := 32) s5
      have e1 : bits .or .u64 ((x : Nat) : Int) (((x : Nat) : Int) / 2) = ((smear x 1 : Nat) : Int) := or_smear x 1 2 rfl h4
      have e2 : bits .or .u64 (((smear x 1) : Nat) : Int) ((((smear x 1) : Nat) : Int) / 4) = ((smear (smear x 1) 2 : Nat) : Int) := or_smear (smear x 1) 2 4 rfl s1
      have e3 : bits .or .u64 (((smear (smear x 1) 2) : Nat) : Int) ((((smear (smear x 1) 2) : Nat) : Int) / 16) = ((smear (smear (smear x 1) 2) 4 : Nat) : Int) := or_smear (smear (smear x 1) 2) 4 16 rfl s2
      have e4 : bits .or .u64 (((smear (smear (smear x 1) 2) 4) : Nat) : Int) ((((smear (smear (smear x 1) 2) 4) : Nat) : Int) / 256) = ((smear (smear (smear (smear x 1) 2) 4) 8 : Nat) : Int) := or_smear (smear (smear (smear x 1) 2) 4) 8 256 rfl s3
      have e5 : bits .or .u64 (((smear (smear (smear (smear x 1) 2) 4) 8) : Nat) : Int) ((((smear (smear (smear (smear x 1) 2) 4) 8) : Nat) : Int) / 65536) = ((smear (smear (smear (smear (smear x 1) 2) 4) 8) 16 : Nat) : Int) := or_smear (smear (smear (smear (smear x 1) 2) 4) 8) 16 65536 rfl s4
      have e6 : bits .or .u64 (((smear (smear (smear (smear (smear x 1) 2) 4) 8) 16) : Nat) : Int) ((((smear (smear (smear (smear (smear x 1) 2) 4) 8) 16) : Nat) : Int) / 65536 / 65536) = ((smear (smear (smear (smear (smear (smear x 1) 2) 4) 8) 16) 32 : Nat) : Int) := by
        rw [Int.ediv_ediv_of_nonneg (by omega)]
        exact or_smear (smear (smear (smear (smear (smear x 1) 2) 4) 8) 16) 32 4294967296 rfl s5
      have hfin : blen (smear (smear (smear (smear (smear (smear x 1) 2) 4) 8) 16) 32) = blen x := by
        unfold smear
        rw [blen_smear, blen_smear, blen_smear, blen_smear, blen_smear, blen_smear]
      have HB := hid hbl; have HF := hid hfin
      have hle : blen x ≤ 64 := by
        by_cases hh : x = 0
        · exact absurd hh h3
        · have := (blen_bounds hh).1
          refine Nat.le_of_not_lt (fun hlt => ?_)
          have : 2 ^ 64 ≤ 2 ^ (blen x - 1) := Nat.pow_le_pow_right (by omega) (by omega)
          omega
      have E1 := hid e1; have E2 := hid e2; have E3 := hid e3; have E4 := hid e4; have E5 := hid e5; have E6 := hid e6
      have HL := hid (libBitLen _ s6)
      have HS6 := hid s6
      clear hbl hfin h1 h2 h3 h4 h5 h6 hgx x4 s1 s2 s3 s4 s5 s6
      go_enter Tryz.func156, Tryz.ntmps156
      go_wp2_with fail
      refine (Tryz.bits_Len _ _ (by omega) (by have := HS6.out; omega)).mono ?_
      rintro e w1 ⟨rfl, rfl⟩
      rw [Int.toNat_natCast, HL.out, HF.out]
      go_wp2_with fail
      go_ret
      exact ⟨by rw [HB.out]; simp, rfl⟩
end Go.Proofs.YteokhhepnoelhaaGreatDoor
