/-
  nlz; divWW at a normalised divisor.
-/
import Derived.Test.YteokhhepnoelhaaGreatDoorSub
import Derived.Test.YteokhhepnoelhaaGreatDoorDivMath
import Derived.Test.YteokhhepnoelhaaGreatDoorBitLen
set_option linter.unusedVariables false
set_option linter.unusedSimpArgs false
namespace Go.Proofs.YteokhhepnoelhaaGreatDoor
open Go.RowKit

theorem blen_le64 {x : Nat} (hx : x < 18446744073709551616) : blen x ≤ 64 := by
  by_cases h0 : x = 0
  · subst h0; decide
  · have := (blen_bounds h0).1
    refine Nat.le_of_not_lt (fun h => ?_)
    have h2 : 2 ^ 64 ≤ 2 ^ (blen x - 1) := Nat.pow_le_pow_right (by omega) (by omega)
    omega

theorem ret_int {k : IntKind} {a b : Int} (h : a = b) : Ending.returned (.int k a) = .returned (.int k b) := by rw [h]
theorem ret_two {k l : IntKind} {a b c d : Int} (h : a = b) (h' : c = d) : Ending.returned (.tuple #[.int k a, .int l c]) = .returned (.tuple #[.int k b, .int l d]) := by rw [h, h']
theorem u64_wrap (n : Int) : IntKind.u64.wrap n = n % 18446744073709551616 := by kernel_rfl

theorem nlz_any (x : Nat) (hx : x < 18446744073709551616) (w : World) : Calls Tryz.prog 243 #[.int .u64 (x : Int)] w fun e w' => e = .returned (.int .u64 ((64 - blen x : Nat) : Int)) ∧ w = w' := by
  have hb := libBitLen x hx
  have hle := blen_le64 hx
  have HB := hid hb
  clear hb
  go_enter Tryz.func243, Tryz.ntmps243
  go_wp2_with (go_at_call 276; refine (Tryz.bits_LeadingZeros _ _ (by omega) (by omega)).mono ?_; rintro e w1 ⟨rfl, rfl⟩; rw [Int.toNat_natCast, HB.out])
  go_ret
  refine ⟨ret_int (k := .u64) ?_, rfl⟩
  omega

set_option maxRecDepth 100000 in
set_option maxHeartbeats 1000000 in
theorem divWW_norm (x1 x0 d : Nat) (hd1 : 9223372036854775808 ≤ d) (hd2 : d < 18446744073709551616) (h1 : x1 < d) (h0 : x0 < 18446744073709551616) (w : World) :
    Calls Tryz.prog 273 #[.int .u64 (x1 : Int), .int .u64 (x0 : Int), .int .u64 (d : Int), .int .u64 (recN d : Int)] w
      fun e w' => e = .returned (.tuple #[.int .u64 (((x1 * 18446744073709551616 + x0) / d : Nat) : Int), .int .u64 (((x1 * 18446744073709551616 + x0) % d : Nat) : Int)]) ∧ w = w' := by
  have hbl : blen d = 64 := blen_eq (b := 63) (by omega) (by omega)
  have HZ := nlz_any d hd2 w
  rw [hbl] at HZ
  have HZ := hid HZ
  obtain ⟨t1, t0, c, q, dq1, dq0, b, r0, r1, e1, e2, e3, e4, hS⟩ := divSteps d x1 x0 hd1 hd2 h1 h0
  obtain ⟨hend, hq, hr⟩ := divSteps_end hd1 hd2 h1 h0 hS
  obtain ⟨m1, m2, m3⟩ := recN_spec hd1 hd2
  have M1 := Tryz.bits_Mul (recN d) x1 m3 (by omega) w
  rw [e1, e2] at M1
  have A1 := bitsAdd t0 x0 0 (by omega) w
  rw [hS.hc] at A1
  have A2 := bitsAdd t1 x1 c hS.c1 w
  rw [hS.hq] at A2
  have M2 := Tryz.bits_Mul d q hd2 hS.ql w
  rw [e3, e4] at M2
  have S1 := bitsSub x0 dq0 0 (by omega) w
  rw [hS.h0, hS.hb] at S1
  have S2 := bitsSub x1 dq1 b hS.b1 w
  rw [hS.h1] at S2
  have hc1 := hS.c1; have hb1 := hS.b1; have hql := hS.ql; have hr0 := hS.r0l
  have M1 := hid M1; have A1 := hid A1; have A2 := hid A2; have M2 := hid M2; have S1 := hid S1; have S2 := hid S2
  generalize (x1 * 18446744073709551616 + x0) / d = Q at *
  generalize (x1 * 18446744073709551616 + x0) % d = R at *
  generalize (t0 + x0 + 0) % 18446744073709551616 = z1 at *
  generalize (t1 + x1 + c) / 18446744073709551616 = z2 at *
  generalize (if x1 < dq1 + b then 1 else 0 : Nat) = z3 at *
  generalize recN d = m at *
  clear hS e1 e2 e3 e4 m1 m2 hbl
  have hend : ∃ v1 v2 : Nat, (r1 = 0 ∧ r0 < d ∧ q = Q ∧ r0 = R) ∨ (r1 = 0 ∧ d ≤ r0 ∧ q + 1 = Q ∧ r0 - d = R) ∨
      (r1 = 1 ∧ IntKind.u64.wrap ((r0 : Int) - (d : Int)) = (v1 : Int) ∧ v1 < d ∧ q + 1 = Q ∧ v1 = R) ∨ (r1 = 1 ∧ IntKind.u64.wrap ((r0 : Int) - (d : Int)) = (v1 : Int) ∧ d ≤ v1 ∧ v1 < 18446744073709551616 ∧ q + 2 = Q ∧ v1 - d = R) := by
    refine ⟨r0 + 18446744073709551616 - d, 0, ?_⟩
    rw [u64_wrap]
    rcases hend with ⟨h1, g1, h2, h3⟩ | ⟨h1, g1, h2, h3⟩ | ⟨h1, g1, g2, h2, h3⟩ | ⟨h1, g1, g2, g3, h2, h3⟩
    · exact .inl ⟨h1, g1, h2.symm, h3.symm⟩
    · exact .inr (.inl ⟨h1, g1, h2.symm, h3.symm⟩)
    · exact .inr (.inr (.inl ⟨h1, by omega, g2, h2.symm, h3.symm⟩))
    · exact .inr (.inr (.inr ⟨h1, by omega, g2, g3, h2.symm, h3.symm⟩))
  obtain ⟨v1, v2, hend⟩ := hend
  rcases hend with ⟨rfl, g1, rfl, rfl⟩ | ⟨rfl, g1, rfl, rfl⟩ | ⟨rfl, hw, g2, rfl, rfl⟩ | ⟨rfl, hw, g2, g3, rfl, rfl⟩
  all_goals
    go_enter Tryz.func273, Tryz.ntmps273
    go_wp2_with fail
    refine HZ.out.mono ?_
    rintro e w1 ⟨rfl, rfl⟩
    go_wp2_with fail
    refine M1.out.mono ?_
    rintro e w1 ⟨rfl, rfl⟩
    go_wp2_with fail
    refine A1.out.mono ?_
    rintro e w1 ⟨rfl, rfl⟩
    go_wp2_with fail
    refine A2.out.mono ?_
    rintro e w1 ⟨rfl, rfl⟩
    go_wp2_with fail
    refine M2.out.mono ?_
    rintro e w1 ⟨rfl, rfl⟩
    go_wp2_with fail
    refine S1.out.mono ?_
    rintro e w1 ⟨rfl, rfl⟩
    go_wp2_with fail
    refine S2.out.mono ?_
    rintro e w1 ⟨rfl, rfl⟩
    go_wp2_with fail
    go_ret2
    refine ⟨ret_two (k := .u64) (l := .u64) ?_ ?_, rfl⟩
    · first | rfl | omega | (simp; done) | (simp; omega)
    · first | rfl | omega | (simp; done) | (simp; omega)
end Go.Proofs.YteokhhepnoelhaaGreatDoor
