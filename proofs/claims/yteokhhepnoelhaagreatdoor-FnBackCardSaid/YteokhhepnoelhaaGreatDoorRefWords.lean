/-
  PLAIN: what the reference's Of, Words, HasWords, Cmp (at equal numbers), OfDec and IsDec answer.
-/
import Derived.Test.YteokhhepnoelhaaGreatDoorRefMath
set_option linter.unusedVariables false
set_option linter.unusedSimpArgs false
namespace Go.Proofs.YteokhhepnoelhaaGreatDoor
open Go.RowKit Go.Proofs.YteokhhepnoelhaaGreatDoorW.PrintWords PFnParse

theorem u64_wr (n : Int) : IntKind.u64.wrap n = n % 18446744073709551616 := by kernel_rfl
theorem u64_bits : IntKind.u64.bits = 64 := rfl
theorem and_mask (a : Nat) (h : a < 18446744073709551616) : bits .and .u64 (a : Int) 65535 = ((a % 65536 : Nat) : Int) := by
  have := u64_and_nat a 65535 (by omega) (by omega)
  rw [show ((65535 : Nat) : Int) = 65535 from rfl] at this
  rw [this, show (65535 : Nat) = 2 ^ 16 - 1 from rfl, Nat.and_two_pow_sub_one_eq_mod]
theorem shr_nat (w s : Nat) (hs : s ≤ 64) : shr .u64 (w : Int) (s : Int) = ((w / 2 ^ s : Nat) : Int) := by
  unfold shr
  rw [u64_bits, show ((s : Int)).toNat = s by omega, Nat.min_eq_left hs]
  simp
theorem of_digit (w : Nat) (hw : w < 18446744073709551616) (j : Nat) (hj : j < 4) : wrap64 (bits .and .u64 (shr .u64 (w : Int) (wrap64 (16 * (j : Int)))) 65535) = ((w / 65536 ^ j % 65536 : Nat) : Int) := by
  rw [show wrap64 (16 * (j : Int)) = ((16 * j : Nat) : Int) by rw [wrap_in _ (by omega) (by omega)]; omega, shr_nat w _ (by omega), and_mask _ (Nat.lt_of_le_of_lt (Nat.div_le_self _ _) hw)]
  rw [show (2 : Nat) ^ (16 * j) = 65536 ^ j by rw [Nat.pow_mul]]
  rw [wrap_nat _ (by omega)]

def split4 (w : Nat) : List Nat := [w % 65536, w / 65536 % 65536, w / 4294967296 % 65536, w / 281474976710656 % 65536]
def four : List Nat → List Nat
  | [] => []
  | w :: ws => split4 w ++ four ws
theorem four_length : ∀ ws : List Nat, (four ws).length = 4 * ws.length
  | [] => rfl
  | w :: ws => by rw [four, List.length_append, four_length ws, List.length_cons]; simp [split4]; omega
theorem four_bd : ∀ ws : List Nat, Bd (four ws)
  | [] => by intro z hz; simp [four] at hz
  | w :: ws => by
    intro z hz
    rw [four, List.mem_append] at hz
    rcases hz with hz | hz
    · simp only [split4, List.mem_cons, List.not_mem_nil, or_false] at hz
      omega
    · exact four_bd ws z hz
theorem four_val : ∀ ws : List Nat, (∀ x ∈ ws, x < WB) → bval (four ws) = nval ws
  | [], _ => rfl
  | w :: ws, h => by
    have hw := h w (by simp)
    rw [WB_eq] at hw
    rw [four, bval_append, four_val ws (fun x hx => h x (by simp [hx])), nval, WB_eq]
    rw [show (split4 w).length = 4 from rfl, show (65536 : Nat) ^ 4 = 18446744073709551616 from by decide]
    simp only [split4, bval]
    omega

theorem Of_word (ws o : List Nat) (w i : Nat) (hw : w < 18446744073709551616) (ho : o.length ≤ 100000) (hi : i ≤ 100000) (n : Int) {R : List Int}
    (h : Evt (fun k => spec_Of.l0 k (zs (o ++ split4 w)) (zs ws) n ((i + 1 : Nat) : Int)) R) : Evt (fun k => spec_Of.l1 k (zs o) (w : Int) 0 (zs ws) n (i : Int)) R := by
  have d0 := hid (of_digit w hw 0 (by omega)); have d1 := hid (of_digit w hw 1 (by omega)); have d2 := hid (of_digit w hw 2 (by omega)); have d3 := hid (of_digit w hw 3 (by omega))
  have hn := hid (wrap_succ i (by omega))
  have s0 := hid (show wrap64 (((0 : Nat) : Int) + 1) = ((1 : Nat) : Int) from wrap_succ 0 (by omega))
  have s1 := hid (show wrap64 (((1 : Nat) : Int) + 1) = ((2 : Nat) : Int) from wrap_succ 1 (by omega))
  have s2 := hid (show wrap64 (((2 : Nat) : Int) + 1) = ((3 : Nat) : Int) from wrap_succ 2 (by omega))
  have s3 := hid (show wrap64 (((3 : Nat) : Int) + 1) = ((4 : Nat) : Int) from wrap_succ 3 (by omega))
  have m0 := hid (show 0 ≤ wrap64 (16 * ((0 : Nat) : Int)) by rw [wrap_in _ (by omega) (by omega)]; omega)
  have m1 := hid (show 0 ≤ wrap64 (16 * ((1 : Nat) : Int)) by rw [wrap_in _ (by omega) (by omega)]; omega)
  have m2 := hid (show 0 ≤ wrap64 (16 * ((2 : Nat) : Int)) by rw [wrap_in _ (by omega) (by omega)]; omega)
  have m3 := hid (show 0 ≤ wrap64 (16 * ((3 : Nat) : Int)) by rw [wrap_in _ (by omega) (by omega)]; omega)
  refine Evt.step (h := fun k => spec_Of.l1 k (zs (o ++ [w / 65536 ^ 0 % 65536])) (w : Int) ((1 : Nat) : Int) (zs ws) n (i : Int)) ?_ fun k => ?_
  · refine Evt.step (h := fun k => spec_Of.l1 k (zs (o ++ [w / 65536 ^ 0 % 65536] ++ [w / 65536 ^ 1 % 65536])) (w : Int) ((2 : Nat) : Int) (zs ws) n (i : Int)) ?_ fun k => ?_
    · refine Evt.step (h := fun k => spec_Of.l1 k (zs (o ++ [w / 65536 ^ 0 % 65536] ++ [w / 65536 ^ 1 % 65536] ++ [w / 65536 ^ 2 % 65536])) (w : Int) ((3 : Nat) : Int) (zs ws) n (i : Int)) ?_ fun k => ?_
      · refine Evt.step (h := fun k => spec_Of.l1 k (zs (o ++ [w / 65536 ^ 0 % 65536] ++ [w / 65536 ^ 1 % 65536] ++ [w / 65536 ^ 2 % 65536] ++ [w / 65536 ^ 3 % 65536])) (w : Int) ((4 : Nat) : Int) (zs ws) n (i : Int)) ?_ fun k => ?_
        · refine Evt.step h fun k => ?_
          simp only [spec_Of.l1]
          rw [if_neg (by omega), hn.out]
          congr 1
          simp [split4]
        · simp only [spec_Of.l1]
          rw [if_pos (by omega), if_pos m3.out, if_pos (by rw [zs_length]; simp; omega), d3.out, s3.out, zs_one, ← zs_append]
      · simp only [spec_Of.l1]
        rw [if_pos (by omega), if_pos m2.out, if_pos (by rw [zs_length]; simp; omega), d2.out, s2.out, zs_one, ← zs_append]
    · simp only [spec_Of.l1]
      rw [if_pos (by omega), if_pos m1.out, if_pos (by rw [zs_length]; simp; omega), d1.out, s1.out, zs_one, ← zs_append]
  · show spec_Of.l1 (k + 1) (zs o) (w : Int) ((0 : Nat) : Int) (zs ws) n (i : Int) = _
    simp only [spec_Of.l1]
    rw [if_pos (by omega), if_pos m0.out, if_pos (by rw [zs_length]; omega), d0.out, s0.out, zs_one, ← zs_append]

theorem Of_l0 (ws : List Nat) (hw : ∀ x ∈ ws, x < WB) (hl : ws.length ≤ 1000) : ∀ (d i : Nat) (o : List Nat), ws.length - i = d → i ≤ ws.length → o.length = 4 * i →
    Evt (fun k => spec_Of.l0 k (zs o) (zs ws) ((zs ws).length : Int) (i : Int)) (zs (normL (o ++ four (ws.drop i)))) := by
  intro d
  induction d with
  | zero =>
    intro i o hd hi ho
    have e1 : ws.drop i = [] := List.drop_of_length_le (by omega)
    rw [e1, four, List.append_nil]
    refine Evt.step (h := fun k => (spec_trim.f k (zs o)).bind fun t => some t) (Evt.bind (trim_ev _ (by omega)) (Evt.const _)) fun k => ?_
    simp only [spec_Of.l0]
    rw [if_neg (by rw [zs_length]; omega)]
  | succ d ih =>
    intro i o hd hi ho
    obtain ⟨x, gx, dx⟩ := drop_get (xs := ws) (i := i) (by omega)
    have hxb := hw x (List.mem_of_getElem? gx)
    rw [WB_eq] at hxb
    have rx := hid (rd_zs ws i x gx)
    have hI := ih (i + 1) (o ++ split4 x) (by omega) (by omega) (by simp [split4]; omega)
    rw [List.append_assoc] at hI
    rw [dx, four]
    refine Evt.step (Of_word ws o x i hxb (by omega) (by omega) _ hI) fun k => ?_
    simp only [spec_Of.l0]
    rw [if_pos (by rw [zs_length]; omega), if_pos (by omega), if_pos (by rw [zs_length]; omega), rx.out]
theorem Of_ev (ws : List Nat) (hw : ∀ x ∈ ws, x < WB) (hl : ws.length ≤ 1000) : Evt (fun k => spec_Of.f k (zs ws)) (zs (digs (nval ws))) := by
  have h := Of_l0 ws hw hl _ 0 [] rfl (by omega) rfl
  rw [List.nil_append, List.drop_zero, normL_digs _ (four_bd ws), four_val ws hw] at h
  exact h

/-! ### Words -/
def pk : List Nat → List Nat
  | [] => []
  | [a] => [a]
  | [a, b] => [a + 65536 * b]
  | [a, b, c] => [a + 65536 * b + 4294967296 * c]
  | a :: b :: c :: d :: r => (a + 65536 * b + 4294967296 * c + 281474976710656 * d) :: pk r
theorem or_join (p j d : Nat) (hj : j < 4) (hp : p < 65536 ^ j) (hd : d < 65536) : bits .or .u64 (p : Int) (shl .u64 (IntKind.u64.wrap (d : Int)) (wrap64 (16 * (j : Int)))) = ((p + 65536 ^ j * d : Nat) : Int) := by
  have hb : (65536 : Nat) ^ j ≤ 65536 ^ 3 := Nat.pow_le_pow_right (by omega) (by omega)
  have hb3 : (65536 : Nat) ^ 3 = 281474976710656 := by decide
  have hmul : 65536 ^ j * d ≤ 281474976710656 * 65535 := Nat.mul_le_mul (by omega) (by omega)
  have hw1 : IntKind.u64.wrap (d : Int) = (d : Int) := by rw [u64_wr]; omega
  have hs : shl .u64 (d : Int) ((16 * j : Nat) : Int) = ((65536 ^ j * d : Nat) : Int) := by
    unfold shl
    rw [u64_bits, show (((16 * j : Nat) : Int)).toNat = 16 * j by omega, Nat.min_eq_left (by omega)]
    have e : (d : Int) * 2 ^ (16 * j) = ((65536 ^ j * d : Nat) : Int) := by
      rw [show (2 : Int) ^ (16 * j) = ((2 ^ (16 * j) : Nat) : Int) by simp, show (2 : Nat) ^ (16 * j) = 65536 ^ j by rw [Nat.pow_mul]]
      rw [Nat.mul_comm]; simp
    rw [e, u64_wr]
    omega
  rw [hw1, show wrap64 (16 * (j : Int)) = ((16 * j : Nat) : Int) by rw [wrap_in _ (by omega) (by omega)]; omega, hs, u64_or_nat p _ (by omega) (by omega)]
  congr 1
  rw [show (65536 : Nat) ^ j = 2 ^ (16 * j) by rw [Nat.pow_mul]] at hp ⊢
  rw [Nat.or_comm, ← Nat.two_pow_add_eq_or_of_lt hp, Nat.add_comm]

theorem tm4 (q j : Nat) (hj : j < 4) : Int.tmod ((4 * q + j : Nat) : Int) 4 = (j : Int) := by rw [Int.tmod_eq_emod_of_nonneg (by omega)]; omega
theorem td4 (q j : Nat) (hj : j < 4) (hq : q ≤ 100000) : wrap64 (Int.tdiv ((4 * q + j : Nat) : Int) 4) = (q : Int) := by rw [Int.tdiv_eq_ediv_of_nonneg (by omega), wrap_in _ (by omega) (by omega)]; omega

theorem Words_first (a o : List Nat) (q d : Nat) (n : Int) (hn : ((4 * q : Nat) : Int) < n) (hg : a[4 * q]? = some d) (hd : d < 65536) (ho : o.length = q) (hq : q ≤ 100000) (k : Nat) :
    spec_Words.l0 (k + 1) (zs o) (zs a) n ((4 * q : Nat) : Int) = spec_Words.l0 k (zs (o ++ [d])) (zs a) n ((4 * q + 1 : Nat) : Int) := by
  have hlt : 4 * q < a.length := (List.getElem?_eq_some_iff.1 hg).1
  have rx := hid (rd_zs a (4 * q) d hg)
  have t1 := hid (show Int.tmod ((4 * q : Nat) : Int) 4 = 0 from tm4 q 0 (by omega))
  have t2 := hid (show wrap64 (Int.tdiv ((4 * q : Nat) : Int) 4) = (q : Int) from td4 q 0 (by omega) hq)
  have hs := hid (wrap_succ (4 * q) (by omega))
  have r0 := hid (show rd (zs (o ++ [0])) (q : Int) = ((0 : Nat) : Int) from rd_zs _ _ _ (by rw [← ho]; simp))
  have hj := hid (or_join 0 0 d (by omega) (by omega) hd)
  have m0 := hid (show 0 ≤ wrap64 (16 * (0 : Int)) by rw [wrap_in _ (by omega) (by omega)]; omega)
  have hz : (zs o ++ [0] : List Int) = zs (o ++ [0]) := by rw [zs_append]; rfl
  simp only [spec_Words.l0]
  rw [if_pos hn, if_pos (by omega), if_pos (by rw [zs_length]; omega), t1.out, if_pos rfl, if_pos (by rw [zs_length]; omega), Option.bind_some, hz, t2.out, if_pos (by omega), if_pos (by rw [zs_length]; simp; omega), if_pos m0.out, r0.out, rx.out,
    show bits .or .u64 ((0 : Nat) : Int) (shl .u64 (IntKind.u64.wrap (d : Int)) (wrap64 (16 * (0 : Int)))) = ((0 + 65536 ^ 0 * d : Nat) : Int) from hj.out, hs.out, zs_set]
  congr 2
  rw [show ((q : Int)).toNat = o.length by omega, List.set_append_right _ _ (Nat.le_refl _), Nat.sub_self]
  simp
theorem Words_next (a o : List Nat) (q j p d : Nat) (n : Int) (hj0 : 1 ≤ j) (hj4 : j < 4) (hn : ((4 * q + j : Nat) : Int) < n) (hg : a[4 * q + j]? = some d) (hp : p < 65536 ^ j) (hd : d < 65536) (ho : o.length = q) (hq : q ≤ 100000) (k : Nat) :
    spec_Words.l0 (k + 1) (zs (o ++ [p])) (zs a) n ((4 * q + j : Nat) : Int) = spec_Words.l0 k (zs (o ++ [p + 65536 ^ j * d])) (zs a) n ((4 * q + j + 1 : Nat) : Int) := by
  have hlt : 4 * q + j < a.length := (List.getElem?_eq_some_iff.1 hg).1
  have rx := hid (rd_zs a (4 * q + j) d hg)
  have t1 := hid (tm4 q j hj4)
  have t2 := hid (td4 q j hj4 hq)
  have hs := hid (wrap_succ (4 * q + j) (by omega))
  have r0 := hid (show rd (zs (o ++ [p])) (q : Int) = (p : Int) from rd_zs _ _ _ (by rw [← ho]; simp))
  have hj := hid (or_join p j d hj4 hp hd)
  have m0 := hid (show 0 ≤ wrap64 (16 * (j : Int)) by rw [wrap_in _ (by omega) (by omega)]; omega)
  simp only [spec_Words.l0]
  rw [if_pos hn, if_pos (by omega), if_pos (by rw [zs_length]; omega), t1.out, if_neg (by omega), t2.out, if_pos (by omega), if_pos (by rw [zs_length]; simp; omega), if_pos m0.out, r0.out, rx.out, hj.out, hs.out, zs_set]
  congr 2
  rw [show ((q : Int)).toNat = o.length by omega, List.set_append_right _ _ (Nat.le_refl _), Nat.sub_self]
  simp
theorem Words_end (a o : List Nat) (i : Nat) (hi : a.length ≤ i) (k : Nat) : spec_Words.l0 (k + 1) (zs o) (zs a) ((zs a).length : Int) (i : Int) = some (zs o) := by
  simp only [spec_Words.l0]
  rw [if_neg (by rw [zs_length]; omega)]

theorem Words_stop (a o : List Nat) (i : Nat) (hi : a.length ≤ i) : Evt (fun k => spec_Words.l0 k (zs o) (zs a) ((zs a).length : Int) (i : Int)) (zs o) := Evt.of fun k => Words_end a o i hi k
theorem get_drop {a : List Nat} {i : Nat} {x : Nat} {r : List Nat} (h : a.drop i = x :: r) : a[i]? = some x ∧ a.drop (i + 1) = r ∧ i < a.length := by
  have hl : i < a.length := by
    rcases Nat.lt_or_ge i a.length with h1 | h1
    · exact h1
    · rw [List.drop_of_length_le h1] at h; cases h
  rw [List.drop_eq_getElem_cons hl] at h
  injection h with h1 h2
  exact ⟨by rw [List.getElem?_eq_getElem hl, h1], h2, hl⟩

theorem Words_l0 (a : List Nat) (ha : Bd a) (hl : a.length ≤ 10000) : ∀ (d q : Nat) (o : List Nat), a.length - 4 * q ≤ 4 * d → o.length = q → q ≤ 10000 →
    Evt (fun k => spec_Words.l0 k (zs o) (zs a) ((zs a).length : Int) ((4 * q : Nat) : Int)) (zs (o ++ pk (a.drop (4 * q)))) := by
  intro d
  induction d with
  | zero =>
    intro q o hd ho hq
    rw [List.drop_of_length_le (by omega), pk, List.append_nil]
    exact Words_stop a o _ (by omega)
  | succ d ih =>
    intro q o hd ho hq
    have hlz : ((zs a).length : Int) = (a.length : Int) := by rw [zs_length]
    have p0 : (65536 : Nat) ^ 1 = 65536 := rfl
    have p2 : (65536 : Nat) ^ 2 = 4294967296 := by decide
    have p3 : (65536 : Nat) ^ 3 = 281474976710656 := by decide
    match hr : a.drop (4 * q) with
    | [] =>
      have := congrArg List.length hr
      rw [List.length_drop, List.length_nil] at this
      rw [pk, List.append_nil]
      exact Words_stop a o _ (by omega)
    | x0 :: r0 =>
      obtain ⟨g0, e0, l0⟩ := get_drop hr
      have b0 := ha x0 (List.mem_of_getElem? g0)
      match r0, e0 with
      | [], e0 =>
        have := congrArg List.length e0
        rw [List.length_drop, List.length_nil] at this
        refine Evt.step (Words_stop a (o ++ [x0]) (4 * q + 1) (by omega)) fun k => ?_
        exact Words_first a o q x0 _ (by rw [hlz]; omega) g0 b0 ho (by omega) k
      | x1 :: r1, e0 =>
        obtain ⟨g1, e1, l1⟩ := get_drop e0
        have b1 := ha x1 (List.mem_of_getElem? g1)
        have f0 := fun k => Words_first a o q x0 ((zs a).length : Int) (by rw [hlz]; omega) g0 b0 ho (by omega) k
        have f1 := fun k => Words_next a o q 1 x0 x1 ((zs a).length : Int) (by omega) (by omega) (by rw [hlz]; omega) g1 (by omega) b1 ho (by omega) k
        rw [p0] at f1
        match r1, e1 with
        | [], e1 =>
          have := congrArg List.length e1
          rw [List.length_drop, List.length_nil] at this
          refine Evt.step (Evt.step (Words_stop a (o ++ [x0 + 65536 * x1]) (4 * q + 2) (by omega)) f1) f0
        | x2 :: r2, e1 =>
          obtain ⟨g2, e2, l2⟩ := get_drop e1
          have b2 := ha x2 (List.mem_of_getElem? g2)
          have f2 := fun k => Words_next a o q 2 (x0 + 65536 * x1) x2 ((zs a).length : Int) (by omega) (by omega) (by rw [hlz]; omega) g2 (by omega) b2 ho (by omega) k
          rw [p2] at f2
          match r2, e2 with
          | [], e2 =>
            have := congrArg List.length e2
            rw [List.length_drop, List.length_nil] at this
            refine Evt.step (Evt.step (Evt.step (Words_stop a (o ++ [x0 + 65536 * x1 + 4294967296 * x2]) (4 * q + 3) (by omega)) f2) f1) f0
          | x3 :: r3, e2 =>
            obtain ⟨g3, e3, l3⟩ := get_drop e2
            have b3 := ha x3 (List.mem_of_getElem? g3)
            have f3 := fun k => Words_next a o q 3 (x0 + 65536 * x1 + 4294967296 * x2) x3 ((zs a).length : Int) (by omega) (by omega) (by rw [hlz]; omega) g3 (by omega) b3 ho (by omega) k
            rw [p3] at f3
            have hI := ih (q + 1) (o ++ [x0 + 65536 * x1 + 4294967296 * x2 + 281474976710656 * x3]) (by omega) (by simp; omega) (by omega)
            rw [show 4 * (q + 1) = 4 * q + 3 + 1 by omega, e3, List.append_assoc, List.singleton_append] at hI
            rw [pk]
            exact Evt.step (Evt.step (Evt.step (Evt.step hI f3) f2) f1) f0

theorem Words_ev (a : List Nat) (ha : Bd a) (hl : a.length ≤ 10000) : Evt (fun k => spec_Words.f k (zs a)) (zs (pk a)) := by
  have h := Words_l0 a ha hl a.length 0 [] (by omega) rfl (by omega)
  rw [List.nil_append, show 4 * 0 = 0 from rfl, List.drop_zero] at h
  exact h

theorem pk_digs (n : Nat) : pk (digs n) = limbs n := by
  induction n using Nat.strongRecOn with
  | _ n ih =>
    by_cases h0 : n = 0
    · subst h0; rw [digs_zero, limbs_zero]; rfl
    · rw [digs_pos h0, limbs_pos h0, WB_eq]
      by_cases h1 : n / 65536 = 0
      · rw [h1, digs_zero, show n / 18446744073709551616 = 0 by omega, limbs_zero, pk, show n % 65536 = n % 18446744073709551616 by omega]
      · rw [digs_pos h1]
        by_cases h2 : n / 65536 / 65536 = 0
        · rw [h2, digs_zero, show n / 18446744073709551616 = 0 by omega, limbs_zero, pk, show n % 65536 + 65536 * (n / 65536 % 65536) = n % 18446744073709551616 by omega]
        · rw [digs_pos h2]
          by_cases h3 : n / 65536 / 65536 / 65536 = 0
          · rw [h3, digs_zero, show n / 18446744073709551616 = 0 by omega, limbs_zero, pk, show n % 65536 + 65536 * (n / 65536 % 65536) + 4294967296 * (n / 65536 / 65536 % 65536) = n % 18446744073709551616 by omega]
          · rw [digs_pos h3, pk, show n / 65536 / 65536 / 65536 / 65536 = n / 18446744073709551616 by omega, ih (n / 18446744073709551616) (by omega),
              show n % 65536 + 65536 * (n / 65536 % 65536) + 4294967296 * (n / 65536 / 65536 % 65536) + 281474976710656 * (n / 65536 / 65536 / 65536 % 65536) = n % 18446744073709551616 by omega]

/-! ### HasWords -/
theorem HW_l0 (ws W : List Nat) (hl : ws.length = W.length) (hn : W.length ≤ 10000) : ∀ (d i : Nat), W.length - i = d → i ≤ W.length →
    Evt (fun k => spec_HasWords.l0 k (zs ws) (zs W) ((zs W).length : Int) (i : Int)) (decide (ws.drop i = W.drop i)) := by
  intro d
  induction d with
  | zero =>
    intro i hd hi
    rw [show ws.drop i = [] from List.drop_of_length_le (by omega), show W.drop i = [] from List.drop_of_length_le (by omega)]
    refine Evt.of fun k => ?_
    simp only [spec_HasWords.l0]
    rw [if_neg (by rw [zs_length]; omega)]
    simp
  | succ d ih =>
    intro i hd hi
    obtain ⟨x, gx, dx⟩ := drop_get (xs := ws) (i := i) (by omega)
    obtain ⟨y, gy, dy⟩ := drop_get (xs := W) (i := i) (by omega)
    have rx := hid (rd_zs ws i x gx)
    have ry := hid (rd_zs W i y gy)
    have hs := hid (wrap_succ i (by omega))
    have hI := ih (i + 1) (by omega) (by omega)
    rw [dx, dy]
    by_cases e : x = y
    · subst e
      rw [show decide (x :: ws.drop (i + 1) = x :: W.drop (i + 1)) = decide (ws.drop (i + 1) = W.drop (i + 1)) by simp]
      refine Evt.step hI fun k => ?_
      simp only [spec_HasWords.l0]
      rw [if_pos (by rw [zs_length]; omega), if_pos (by omega), if_pos (by rw [zs_length]; omega), if_pos (by rw [zs_length]; omega), rx.out, ry.out, if_pos rfl, hs.out]
    · rw [show decide (x :: ws.drop (i + 1) = y :: W.drop (i + 1)) = false by simp [e]]
      refine Evt.of fun k => ?_
      simp only [spec_HasWords.l0]
      rw [if_pos (by rw [zs_length]; omega), if_pos (by omega), if_pos (by rw [zs_length]; omega), if_pos (by rw [zs_length]; omega), rx.out, ry.out, if_neg (by omega)]
theorem HasWords_ev (ws : List Nat) (n : Nat) (hd : (digs n).length ≤ 10000) (hn : (limbs n).length ≤ 10000) : Evt (fun k => spec_HasWords.f k (zs ws) (zs (digs n))) (decide (ws = limbs n)) := by
  have hW := Words_ev (digs n) (digs_lt n) hd
  rw [pk_digs] at hW
  have h2 : Evt (fun k => (if ((zs ws).length : Int) = ((zs (limbs n)).length : Int) then (spec_HasWords.l0 k (zs ws) (zs (limbs n)) ((zs (limbs n)).length : Int) 0) else (some false))) (decide (ws = limbs n)) := by
    by_cases hl : ws.length = (limbs n).length
    · have h := HW_l0 ws (limbs n) hl hn _ 0 rfl (by omega)
      rw [List.drop_zero, List.drop_zero] at h
      refine Evt.same h fun k => ?_
      rw [if_pos (by rw [zs_length, zs_length]; omega)]
      rfl
    · rw [show decide (ws = limbs n) = false by simpa using fun e : ws = limbs n => hl (by rw [e])]
      refine Evt.same (Evt.const false) fun k => ?_
      rw [if_neg (by rw [zs_length, zs_length]; omega)]
  exact Evt.bind (g := fun k t340 => (if ((zs ws).length : Int) = (t340.length : Int) then (spec_HasWords.l0 k (zs ws) t340 (t340.length : Int) 0) else (some false))) hW h2

/-! ### Cmp at equal numbers -/
theorem Cmp_same (a : List Nat) (hl : a.length ≤ 10000) : ∀ i : Nat, i ≤ a.length → Evt (fun k => spec_Cmp.l0 k (zs a) (zs a) ((i : Int) - 1)) 0 := by
  intro i
  induction i with
  | zero =>
    intro hi
    refine Evt.of fun k => ?_
    simp only [spec_Cmp.l0]
    rw [if_neg (by omega)]
  | succ i ih =>
    intro hi
    obtain ⟨x, gx, dx⟩ := drop_get (xs := a) (i := i) (by omega)
    have rx := hid (rd_zs a i x gx)
    have hs := hid (show wrap64 ((i : Int) - 1) = (i : Int) - 1 from wrap_in _ (by omega) (by omega))
    rw [show (((i + 1 : Nat) : Int)) - 1 = (i : Int) by omega]
    refine Evt.step (ih (by omega)) fun k => ?_
    simp only [spec_Cmp.l0]
    rw [if_pos (by omega), if_pos (by omega), if_pos (by rw [zs_length]; omega), if_pos (by rw [zs_length]; omega), rx.out, if_neg (by omega), if_neg (by omega), hs.out]
theorem Cmp_ev_same (a : List Nat) (hl : a.length ≤ 10000) : Evt (fun k => spec_Cmp.f k (zs a) (zs a)) 0 := by
  have h := Cmp_same a hl a.length (by omega)
  refine Evt.same h fun k => ?_
  simp only [spec_Cmp.f]
  rw [if_neg (by omega), if_neg (by omega), zs_length, wrap_in _ (by omega) (by omega)]

/-! ### OfDec, IsDec -/
theorem OfDec_ev (f : Int) (neg : Bool) (ws : List Nat) (e : Int) (hw : ∀ x ∈ ws, x < WB) (hl : ws.length ≤ 1000) (hd : (digs (nval ws)).length ≤ 10000) (hn : (limbs (nval ws)).length ≤ 10000) :
    Evt (fun k => spec_OfDec.f k f neg (zs ws) e) (neg, zs (digs (nval ws)), e, decide (f = 0) && decide (ws = limbs (nval ws))) := by
  refine Evt.bind (g := fun k t347 => (if f = 0 then ((spec_HasWords.f k (zs ws) t347).bind fun t350 => (some (neg, t347, e, t350))) else (some (neg, t347, e, false)))) (Of_ev ws hw hl) ?_
  by_cases h0 : f = 0
  · rw [show (decide (f = 0) && decide (ws = limbs (nval ws))) = decide (ws = limbs (nval ws)) by simp [h0]]
    refine Evt.same (Evt.bind (g := fun k t350 => some (neg, zs (digs (nval ws)), e, t350)) (HasWords_ev ws (nval ws) hd hn) (Evt.const _)) fun k => ?_
    rw [if_pos h0]
  · rw [show (decide (f = 0) && decide (ws = limbs (nval ws))) = false by simp [h0]]
    refine Evt.same (Evt.const _) fun k => ?_
    rw [if_neg h0]
theorem IsDec_ev (neg : Bool) (V : Nat) (e : Int) (hl : (limbs V).length ≤ 1000) (hd : (digs V).length ≤ 10000) :
    Evt (fun k => spec_IsDec.f k 0 neg (zs (limbs V)) e neg (zs (digs V)) e) true := by
  have h1 := OfDec_ev 0 neg (limbs V) e (limbs_lt V) hl (by rw [nval_limbs]; exact hd) (by rw [nval_limbs]; omega)
  rw [nval_limbs] at h1
  rw [show (decide ((0 : Int) = 0) && decide (limbs V = limbs V)) = true by simp] at h1
  refine Evt.bind (g := fun k (bt357 : Bool × List Int × Int × Bool) => (if bt357.2.2.2 = true then ((spec_Cmp.f k bt357.2.1 (zs (digs V))).bind fun t364 => (if t364 = 0 then (if bt357.2.2.1 = e then (if (bt357.1 == neg) = true then (some true) else (some (((zs (digs V)).length : Int) == 0))) else (some false)) else (some false))) else (some false))) h1 ?_
  refine Evt.same (Evt.bind (g := fun k (t364 : Int) => (if t364 = 0 then (if e = e then (if (neg == neg) = true then (some true) else (some (((zs (digs V)).length : Int) == 0))) else (some false)) else (some false))) (Cmp_ev_same (digs V) hd) ?_) fun k => ?_
  · refine Evt.same (Evt.const true) fun k => ?_
    simp
  · simp
end Go.Proofs.YteokhhepnoelhaaGreatDoor
