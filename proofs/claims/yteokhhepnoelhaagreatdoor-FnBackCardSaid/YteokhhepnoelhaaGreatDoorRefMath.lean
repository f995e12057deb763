/-
  PLAIN: what the reference's functions on numbers answer: sums, products by one digit, words and digits.
-/
import Derived.Test.YteokhhepnoelhaaGreatDoorRefB
import Derived.Test.YteokhhepnoelhaaGreatDoorBitLen
set_option linter.unusedVariables false
set_option linter.unusedSimpArgs false
namespace Go.Proofs.YteokhhepnoelhaaGreatDoor
open Go.RowKit Go.Proofs.YteokhhepnoelhaaGreatDoorW.PrintWords PFnParse

/-! ### Rounds -/
def Evt {α : Type} (g : Nat → Option α) (r : α) : Prop := ∃ K, ∀ k, K ≤ k → g k = some r
theorem Evt.const {α : Type} (r : α) : Evt (fun _ => some r) r := ⟨0, fun _ _ => rfl⟩
theorem Evt.step {α : Type} {g h : Nat → Option α} {r : α} (hh : Evt h r) (e : ∀ k, g (k + 1) = h k) : Evt g r := by
  obtain ⟨K, hK⟩ := hh
  exact ⟨K + 1, fun k hk => by
    obtain ⟨m, rfl⟩ : ∃ m, k = m + 1 := ⟨k - 1, by omega⟩
    rw [e]; exact hK m (by omega)⟩
theorem Evt.of {α : Type} {g : Nat → Option α} {r : α} (e : ∀ k, g (k + 1) = some r) : Evt g r := Evt.step (Evt.const r) e
theorem Evt.same {α : Type} {g h : Nat → Option α} {r : α} (hh : Evt h r) (e : ∀ k, g k = h k) : Evt g r := by
  obtain ⟨K, hK⟩ := hh
  exact ⟨K, fun k hk => by rw [e]; exact hK k hk⟩
theorem Evt.bind {α β : Type} {f : Nat → Option α} {g : Nat → α → Option β} {a : α} {b : β} (h1 : Evt f a) (h2 : Evt (fun k => g k a) b) : Evt (fun k => (f k).bind (g k)) b := by
  obtain ⟨K, hK⟩ := h1
  obtain ⟨L, hL⟩ := h2
  exact ⟨max K L, fun k hk => by
    show (f k).bind (g k) = some b
    rw [hK k (by omega), Option.bind_some]
    exact hL k (by omega)⟩
theorem Evt.get {α : Type} {g : Nat → Option α} {r : α} (h : Evt g r) : ∃ k, g k = some r := by
  obtain ⟨K, hK⟩ := h
  exact ⟨K, hK K (Nat.le_refl _)⟩

/-! ### Digits to the base 65536 -/
def bval : List Nat → Nat
  | [] => 0
  | x :: xs => x + 65536 * bval xs
def digs (n : Nat) : List Nat := if h : n = 0 then [] else n % 65536 :: digs (n / 65536)
termination_by n
decreasing_by exact Nat.div_lt_self (by omega) (by decide)
theorem digs_zero : digs 0 = [] := by rw [digs]; simp
theorem digs_pos {n : Nat} (h : n ≠ 0) : digs n = n % 65536 :: digs (n / 65536) := by rw [digs]; simp [h]
def Bd (xs : List Nat) : Prop := ∀ x ∈ xs, x < 65536
theorem digs_lt (n : Nat) : Bd (digs n) := by
  induction n using Nat.strongRecOn with
  | _ n ih =>
    intro x hx
    by_cases h : n = 0
    · subst h; rw [digs_zero] at hx; cases hx
    · rw [digs_pos h] at hx
      rcases List.mem_cons.1 hx with rfl | hx
      · exact Nat.mod_lt _ (by omega)
      · exact ih _ (Nat.div_lt_self (by omega) (by decide)) x hx
theorem bval_digs (n : Nat) : bval (digs n) = n := by
  induction n using Nat.strongRecOn with
  | _ n ih =>
    by_cases h : n = 0
    · subst h; rw [digs_zero]; rfl
    · rw [digs_pos h, bval, ih _ (Nat.div_lt_self (by omega) (by decide)), Nat.mod_add_div]
theorem digs_nil {n : Nat} : digs n = [] ↔ n = 0 := by
  constructor
  · intro h
    have := bval_digs n
    rw [h] at this
    exact this.symm
  · rintro rfl; exact digs_zero
theorem normL_digs (xs : List Nat) (h : Bd xs) : normL xs = digs (bval xs) := by
  induction xs with
  | nil => rw [bval, digs_zero]; rfl
  | cons x xs ih =>
    have hx := h x (by simp)
    have ih := ih (fun u hu => h u (by simp [hu]))
    rw [normL, ih, bval]
    have hd : (x + 65536 * bval xs) / 65536 = bval xs := by omega
    have hm : (x + 65536 * bval xs) % 65536 = x := by omega
    by_cases h0 : bval xs = 0
    · rw [h0, digs_zero]
      by_cases hx0 : x = 0
      · simp [hx0, digs_zero]
      · have hne : x + 65536 * 0 ≠ 0 := by omega
        rw [h0] at hd hm
        simp only [hx0, if_false]
        rw [digs_pos hne, hd, hm, digs_zero]
    · have hne : x + 65536 * bval xs ≠ 0 := by omega
      rw [digs_pos hne, hd, hm]
      rw [digs_pos h0]
theorem bval_append (xs ys : List Nat) : bval (xs ++ ys) = bval xs + 65536 ^ xs.length * bval ys := by
  induction xs with
  | nil => simp [bval]
  | cons x xs ih => rw [List.cons_append, bval, bval, ih, List.length_cons, Nat.pow_succ, Nat.mul_add, Nat.mul_comm (65536 ^ xs.length) 65536, Nat.mul_assoc]; omega
theorem bval_lt (xs : List Nat) (h : Bd xs) : bval xs < 65536 ^ xs.length := by
  induction xs with
  | nil => simp [bval]
  | cons x xs ih =>
    have h1 := h x (by simp)
    have h2 := ih (fun u hu => h u (by simp [hu]))
    rw [bval, List.length_cons, Nat.pow_succ]
    omega
theorem digs_length_le (k : Nat) : ∀ n, n < 65536 ^ k → (digs n).length ≤ k := by
  induction k with
  | zero =>
    intro n h
    rw [Nat.pow_zero] at h
    have h0 : n = 0 := by omega
    subst h0
    simp [digs_zero]
  | succ k ih =>
    intro n h
    by_cases h0 : n = 0
    · subst h0; simp [digs_zero]
    · rw [digs_pos h0, List.length_cons]
      rw [Nat.pow_succ] at h
      have := ih (n / 65536) (by omega)
      omega

def zs (xs : List Nat) : List Int := xs.map fun (x : Nat) => (x : Int)
theorem zs_length (xs : List Nat) : (zs xs).length = xs.length := by simp [zs]
theorem zs_append (xs ys : List Nat) : zs (xs ++ ys) = zs xs ++ zs ys := by simp [zs]
theorem zs_take (xs : List Nat) (n : Nat) : (zs xs).take n = zs (xs.take n) := by simp [zs, List.map_take]
theorem zs_one (x : Nat) : [(x : Int)] = zs [x] := rfl
theorem zs_nil : zs [] = [] := rfl
theorem zs_set (xs : List Nat) (i x : Nat) : (zs xs).set i (x : Int) = zs (xs.set i x) := by simp [zs, List.map_set]
theorem rd_zs (xs : List Nat) (i x : Nat) (h : xs[i]? = some x) : rd (zs xs) (i : Int) = (x : Int) := by
  unfold rd
  rw [List.getD_eq_getElem?_getD, show ((i : Int)).toNat = i by omega]
  simp [zs, h]

theorem wrap_in (n : Int) (h1 : -9223372036854775808 ≤ n) (h2 : n ≤ 9223372036854775807) : wrap64 n = n := by
  unfold wrap64
  omega

theorem wrap_nat (n : Nat) (h : n ≤ 9223372036854775807) : wrap64 (n : Int) = (n : Int) := wrap_in _ (by omega) (by omega)
theorem wrap_succ (i : Nat) (h : i ≤ 1000000) : wrap64 ((i : Int) + 1) = ((i + 1 : Nat) : Int) := by
  rw [wrap_in _ (by omega) (by omega)]; omega
theorem wrap_zero (i : Nat) (h : i ≤ 1000000) : wrap64 ((i : Int) + 0) = (i : Int) := by
  rw [wrap_in _ (by omega) (by omega)]; omega
theorem wrap_two (c x : Nat) (hc : c ≤ 1000000) (hx : x ≤ 1000000) : wrap64 ((c : Int) + x) = ((c + x : Nat) : Int) := by
  rw [wrap_in _ (by omega) (by omega)]; omega
theorem wrap_three (c x y : Nat) (hc : c ≤ 1000000) (hx : x ≤ 1000000) (hy : y ≤ 1000000) : wrap64 (wrap64 ((c : Int) + x) + y) = ((c + x + y : Nat) : Int) := by
  rw [wrap_two c x hc hx, wrap_in _ (by omega) (by omega)]; omega
theorem wrap_mul (c x y : Nat) (hc : c < 65536) (hx : x < 65536) (hy : y < 65536) : wrap64 (0 + wrap64 ((c : Int) + wrap64 ((x : Int) * (y : Int)))) = ((c + x * y : Nat) : Int) := by
  have hp : x * y ≤ 65535 * 65535 := Nat.mul_le_mul (by omega) (by omega)
  rw [show (x : Int) * (y : Int) = ((x * y : Nat) : Int) by simp]
  generalize x * y = p at *
  rw [wrap_in (p : Int) (by omega) (by omega), wrap_in ((c : Int) + p) (by omega) (by omega), wrap_in _ (by omega) (by omega)]
  omega

/-! ### trim -/
theorem trim_ev (xs : List Nat) (h : xs.length ≤ 1000000) : Evt (fun k => spec_trim.f k (zs xs)) (zs (normL xs)) := by
  obtain ⟨n, hn⟩ : ∃ n, xs.length = n := ⟨_, rfl⟩
  induction n generalizing xs with
  | zero =>
    have : xs = [] := List.eq_nil_of_length_eq_zero hn
    subst this
    exact Evt.of fun k => by
      simp only [spec_trim.f, spec_trim.l0]
      rw [if_neg (by simp [zs])]
      rfl
  | succ n ih =>
    obtain ⟨ys, x, rfl⟩ : ∃ ys x, xs = ys ++ [x] := ⟨xs.dropLast, xs.getLast (by intro h; rw [h] at hn; cases hn), (List.dropLast_concat_getLast _).symm⟩
    have hy : ys.length = n := by simpa using hn
    have hl : (((zs (ys ++ [x])).length : Int)) = (n : Int) + 1 := by rw [zs_length]; simp; omega
    have hw := hid (show wrap64 ((n : Int) + 1 - 1) = (n : Int) by rw [wrap_in _ (by omega) (by omega)]; omega)
    have hr := hid (show rd (zs (ys ++ [x])) (n : Int) = (x : Int) from rd_zs _ _ _ (by rw [← hy]; simp))
    by_cases h0 : x = 0
    · refine Evt.step (h := fun k => spec_trim.f k (zs ys)) (by rw [show normL (ys ++ [x]) = normL ys by rw [h0]; exact normL_snoc_zero ys]; exact ih ys (by omega) hy) fun k => ?_
      simp only [spec_trim.f, spec_trim.l0]
      rw [hl, hw.out, hr.out, if_pos (by omega), if_pos (by omega), if_pos (by omega), if_pos (by omega), if_pos (by omega)]
      congr 1
      rw [zs_take, show ((n : Int)).toNat = ys.length by omega, List.take_left' rfl]
    · refine Evt.of fun k => ?_
      simp only [spec_trim.f, spec_trim.l0]
      rw [hl, hw.out, hr.out, if_pos (by omega), if_pos (by omega), if_pos (by omega), if_neg (by omega), normL_snoc ys x h0]

/-! ### Add -/
def addL : List Nat → List Nat → Nat → List Nat
  | [], [], c => [c]
  | x :: xs, [], c => (c + x) % 65536 :: addL xs [] ((c + x) / 65536)
  | [], y :: ys, c => (c + y) % 65536 :: addL [] ys ((c + y) / 65536)
  | x :: xs, y :: ys, c => (c + x + y) % 65536 :: addL xs ys ((c + x + y) / 65536)
theorem addL_val : ∀ (xs ys : List Nat) (c : Nat), bval (addL xs ys c) = bval xs + bval ys + c
  | [], [], c => by simp [addL, bval]
  | x :: xs, [], c => by simp only [addL, bval, addL_val xs []]; omega
  | [], y :: ys, c => by simp only [addL, bval, addL_val [] ys]; omega
  | x :: xs, y :: ys, c => by simp only [addL, bval, addL_val xs ys]; omega
theorem addL_bd : ∀ (xs ys : List Nat) (c : Nat), Bd xs → Bd ys → c ≤ 1 → Bd (addL xs ys c)
  | [], [], c, _, _, hc => by intro z hz; simp [addL] at hz; omega
  | x :: xs, [], c, hx, hy, hc => by
    have h1 := hx x (by simp)
    intro z hz
    rw [addL, List.mem_cons] at hz
    rcases hz with rfl | hz
    · omega
    · exact addL_bd xs [] _ (fun u hu => hx u (by simp [hu])) hy (by omega) z hz
  | [], y :: ys, c, hx, hy, hc => by
    have h1 := hy y (by simp)
    intro z hz
    rw [addL, List.mem_cons] at hz
    rcases hz with rfl | hz
    · omega
    · exact addL_bd [] ys _ hx (fun u hu => hy u (by simp [hu])) (by omega) z hz
  | x :: xs, y :: ys, c, hx, hy, hc => by
    have h1 := hx x (by simp)
    have h2 := hy y (by simp)
    intro z hz
    rw [addL, List.mem_cons] at hz
    rcases hz with rfl | hz
    · omega
    · exact addL_bd xs ys _ (fun u hu => hx u (by simp [hu])) (fun u hu => hy u (by simp [hu])) (by omega) z hz
theorem addL_length : ∀ (xs ys : List Nat) (c : Nat), (addL xs ys c).length ≤ xs.length + ys.length + 1
  | [], [], c => by simp [addL]
  | x :: xs, [], c => by have := addL_length xs [] ((c + x) / 65536); simp [addL] at *; omega
  | [], y :: ys, c => by have := addL_length [] ys ((c + y) / 65536); simp [addL] at *; omega
  | x :: xs, y :: ys, c => by have := addL_length xs ys ((c + x + y) / 65536); simp [addL] at *; omega

theorem drop_get {xs : List Nat} {i : Nat} (h : i < xs.length) : ∃ x, xs[i]? = some x ∧ xs.drop i = x :: xs.drop (i + 1) :=
  ⟨xs[i], List.getElem?_eq_getElem h, by rw [List.drop_eq_getElem_cons h]⟩

theorem tmod_nat (a : Nat) : Int.tmod (a : Int) 65536 = ((a % 65536 : Nat) : Int) := by
  rw [Int.tmod_eq_emod_of_nonneg (by omega)]; omega
theorem tdiv_nat (a : Nat) : Int.tdiv (a : Int) 65536 = ((a / 65536 : Nat) : Int) := by
  rw [Int.tdiv_eq_ediv_of_nonneg (by omega)]; omega

theorem Add_l0 (xs ys : List Nat) (hx : Bd xs) (hy : Bd ys) (hlx : xs.length ≤ 10000) (hly : ys.length ≤ 10000) :
    ∀ (d i c : Nat) (o : List Nat), max xs.length ys.length - i = d → c ≤ 1 → o.length = i → i ≤ 20000 →
      Evt (fun k => spec_Add.l0 k (zs xs) (zs ys) (zs o) (c : Int) (i : Int)) (zs (normL (o ++ addL (xs.drop i) (ys.drop i) c))) := by
  intro d
  induction d with
  | zero =>
    intro i c o hd hc ho hi
    have e1 : xs.drop i = [] := List.drop_of_length_le (by omega)
    have e2 : ys.drop i = [] := List.drop_of_length_le (by omega)
    rw [e1, e2, addL]
    refine Evt.step (h := fun k => spec_Add.j1 k (zs xs) (zs ys) (zs o) (c : Int) (i : Int) false) ?_ fun k => ?_
    · refine Evt.step (h := fun k => (spec_trim.f k (zs (o ++ [c]))).bind fun t => some t) (Evt.bind (trim_ev _ (by simp; omega)) (Evt.const _)) fun k => ?_
      simp only [spec_Add.j1]
      rw [if_neg (by simp), if_pos (by rw [zs_length]; omega), zs_append]
      rfl
    · simp only [spec_Add.l0]
      rw [if_neg (by rw [zs_length]; omega)]
      congr 1
      simp only [decide_eq_false_iff_not]
      rw [zs_length]; omega
  | succ d ih =>
    intro i c o hd hc ho hi
    have hi64 := hid (wrap_succ i (by omega))
    have hol : (zs o).length < 17592186044416 := by rw [zs_length]; omega
    by_cases hxi : i < xs.length
    · obtain ⟨x, gx, dx⟩ := drop_get hxi
      have hxb := hx x (List.mem_of_getElem? gx)
      have rx := hid (rd_zs xs i x gx)
      by_cases hyi : i < ys.length
      · obtain ⟨y, gy, dy⟩ := drop_get hyi
        have hyb := hy y (List.mem_of_getElem? gy)
        have ry := hid (rd_zs ys i y gy)
        have hs := hid (wrap_three c x y (by omega) (by omega) (by omega))
        have hI := ih (i + 1) ((c + x + y) / 65536) (o ++ [(c + x + y) % 65536]) (by omega) (by omega) (by simp; omega) (by omega)
        rw [dx, dy, addL]
        rw [List.append_assoc, List.singleton_append] at hI
        refine Evt.step (h := fun k => spec_Add.j1 k (zs xs) (zs ys) (zs o) (c : Int) (i : Int) true) (Evt.step hI fun k => ?_) fun k => ?_
        · simp only [spec_Add.j1]
          rw [if_pos trivial, if_pos (by rw [zs_length]; omega), if_pos (by omega), if_pos (by rw [zs_length]; omega), if_pos hol, rx.out, ry.out, hs.out, tmod_nat, tdiv_nat, wrap_nat _ (by omega), hi64.out, zs_one, ← zs_append]
        · simp only [spec_Add.l0]
          rw [if_pos (by rw [zs_length]; omega)]
      · have dy : ys.drop i = [] := List.drop_of_length_le (by omega)
        have dy' : ys.drop (i + 1) = [] := List.drop_of_length_le (by omega)
        have hs := hid (wrap_two c x (by omega) (by omega))
        have hI := ih (i + 1) ((c + x) / 65536) (o ++ [(c + x) % 65536]) (by omega) (by omega) (by simp; omega) (by omega)
        rw [dx, dy, addL]
        rw [List.append_assoc, List.singleton_append, dy'] at hI
        refine Evt.step (h := fun k => spec_Add.j1 k (zs xs) (zs ys) (zs o) (c : Int) (i : Int) true) (Evt.step hI fun k => ?_) fun k => ?_
        · simp only [spec_Add.j1]
          rw [if_pos trivial, if_pos (by rw [zs_length]; omega), if_pos (by omega), if_neg (by rw [zs_length]; omega), if_pos hol, rx.out, hs.out, tmod_nat, tdiv_nat, wrap_nat _ (by omega), hi64.out, zs_one, ← zs_append]
        · simp only [spec_Add.l0]
          rw [if_pos (by rw [zs_length]; omega)]
    · have hyi : i < ys.length := by omega
      obtain ⟨y, gy, dy⟩ := drop_get hyi
      have hyb := hy y (List.mem_of_getElem? gy)
      have ry := hid (rd_zs ys i y gy)
      have dx : xs.drop i = [] := List.drop_of_length_le (by omega)
      have dx' : xs.drop (i + 1) = [] := List.drop_of_length_le (by omega)
      have hs := hid (wrap_two c y (by omega) (by omega))
      have hI := ih (i + 1) ((c + y) / 65536) (o ++ [(c + y) % 65536]) (by omega) (by omega) (by simp; omega) (by omega)
      rw [dx, dy, addL]
      rw [List.append_assoc, List.singleton_append, dx'] at hI
      refine Evt.step (h := fun k => spec_Add.j1 k (zs xs) (zs ys) (zs o) (c : Int) (i : Int) true) (Evt.step hI fun k => ?_) fun k => ?_
      · simp only [spec_Add.j1]
        rw [if_pos trivial, if_neg (by rw [zs_length]; omega), if_pos (by rw [zs_length]; omega), if_pos (by omega), if_pos hol, ry.out, hs.out, tmod_nat, tdiv_nat, wrap_nat _ (by omega), hi64.out, zs_one, ← zs_append]
      · simp only [spec_Add.l0]
        rw [if_neg (by rw [zs_length]; omega)]
        congr 1
        simp only [decide_eq_true_eq]
        rw [zs_length]; omega

theorem Add_ev (a b : Nat) (ha : (digs a).length ≤ 10000) (hb : (digs b).length ≤ 10000) : Evt (fun k => spec_Add.f k (zs (digs a)) (zs (digs b))) (zs (digs (a + b))) := by
  have h := Add_l0 (digs a) (digs b) (digs_lt a) (digs_lt b) ha hb _ 0 0 [] rfl (by omega) rfl (by omega)
  rw [List.nil_append, List.drop_zero, List.drop_zero, normL_digs _ (addL_bd _ _ _ (digs_lt a) (digs_lt b) (by omega)), addL_val, bval_digs, bval_digs, Nat.add_zero] at h
  exact h

/-! ### Small -/
theorem Small_l0 (n : Nat) (hn : n < 4611686018427387904) : ∀ o : List Nat, o.length ≤ 1000 → Evt (fun k => spec_Small.l0 k (n : Int) (zs o)) (zs (o ++ digs n)) := by
  have key : ∀ (m : Nat) (n : Nat), n < 65536 ^ m → n < 4611686018427387904 → ∀ o : List Nat, o.length + m ≤ 2000 → Evt (fun k => spec_Small.l0 k (n : Int) (zs o)) (zs (o ++ digs n)) := by
    intro m
    induction m with
    | zero =>
      intro n h1 h2 o ho
      have : n = 0 := by rw [Nat.pow_zero] at h1; omega
      subst this
      rw [digs_zero, List.append_nil]
      exact Evt.of fun k => by
        simp only [spec_Small.l0]
        rw [if_neg (by simp)]
    | succ m ih =>
      intro n h1 h2 o ho
      by_cases h0 : n = 0
      · subst h0
        rw [digs_zero, List.append_nil]
        exact Evt.of fun k => by
          simp only [spec_Small.l0]
          rw [if_neg (by simp)]
      · rw [Nat.pow_succ] at h1
        have hI := ih (n / 65536) (by omega) (by omega) (o ++ [n % 65536]) (by simp; omega)
        rw [List.append_assoc, List.singleton_append, ← digs_pos h0] at hI
        refine Evt.step hI fun k => ?_
        simp only [spec_Small.l0]
        rw [if_pos (by omega), if_pos (by rw [zs_length]; omega), tdiv_nat, tmod_nat, wrap_nat _ (by omega), zs_one, ← zs_append]
  intro o ho
  exact key 4 n (by omega) hn o (by omega)
theorem Small_ev (n : Nat) (hn : n < 4611686018427387904) : Evt (fun k => spec_Small.f k (n : Int)) (zs (digs n)) := by
  have h := Small_l0 n hn [] (by simp)
  rwa [List.nil_append] at h

/-! ### Mul by one digit -/
def mulL : List Nat → Nat → Nat → List Nat
  | [], _, c => [c]
  | x :: xs, y, c => (c + x * y) % 65536 :: mulL xs y ((c + x * y) / 65536)
theorem mulL_val : ∀ (xs : List Nat) (y c : Nat), bval (mulL xs y c) = bval xs * y + c
  | [], y, c => by simp [mulL, bval]
  | x :: xs, y, c => by
    rw [mulL, bval, mulL_val xs y, bval, Nat.add_mul, Nat.mul_assoc]
    generalize x * y = p
    generalize bval xs * y = q
    omega
theorem mul_carry {x y c : Nat} (hx : x < 65536) (hy : y < 65536) (hc : c < 65536) : c + x * y < 4294967296 ∧ (c + x * y) / 65536 < 65536 := by
  have h : x * y ≤ 65535 * 65535 := Nat.mul_le_mul (by omega) (by omega)
  generalize x * y = p at *
  omega
theorem mulL_bd : ∀ (xs : List Nat) (y c : Nat), Bd xs → y < 65536 → c < 65536 → Bd (mulL xs y c)
  | [], y, c, _, _, hc => by intro z hz; simp [mulL] at hz; omega
  | x :: xs, y, c, hx, hy, hc => by
    intro z hz
    rw [mulL, List.mem_cons] at hz
    rcases hz with rfl | hz
    · exact Nat.mod_lt _ (by omega)
    · exact mulL_bd xs y _ (fun u hu => hx u (by simp [hu])) hy (mul_carry (hx x (by simp)) hy hc).2 z hz
theorem mulL_length : ∀ (xs : List Nat) (y c : Nat), (mulL xs y c).length = xs.length + 1
  | [], y, c => by simp [mulL]
  | x :: xs, y, c => by rw [mulL, List.length_cons, mulL_length xs y]; simp

theorem Mul_l0 (xs : List Nat) (y : Nat) (hx : Bd xs) (hy : y < 65536) (hl : xs.length ≤ 10000) :
    ∀ (d i c : Nat) (o : List Nat), xs.length - i = d → i ≤ xs.length → c < 65536 → o.length = i →
      Evt (fun k => spec_Mul.l0 k (zs [y]) (zs (o ++ c :: List.replicate d 0)) (zs xs) ((zs xs).length : Int) (i : Int)) (zs (normL (o ++ mulL (xs.drop i) y c))) := by
  intro d
  induction d with
  | zero =>
    intro i c o hd hi hc ho
    have e1 : xs.drop i = [] := List.drop_of_length_le (by omega)
    rw [e1, mulL, List.replicate_zero]
    refine Evt.step (h := fun k => (spec_trim.f k (zs (o ++ [c]))).bind fun t => some t) (Evt.bind (trim_ev _ (by simp; omega)) (Evt.const _)) fun k => ?_
    simp only [spec_Mul.l0]
    rw [if_neg (by rw [zs_length]; omega)]
  | succ d ih =>
    intro i c o hd hi hc ho
    have hxi : i < xs.length := by omega
    obtain ⟨x, gx, dx⟩ := drop_get hxi
    have hxb := hx x (List.mem_of_getElem? gx)
    have rx := hid (rd_zs xs i x gx)
    have hmc := mul_carry hxb hy hc
    have hI := ih (i + 1) ((c + x * y) / 65536) (o ++ [(c + x * y) % 65536]) (by omega) (by omega) hmc.2 (by simp; omega)
    simp only [List.append_assoc, List.singleton_append] at hI
    rw [dx, mulL]
    have hlen : ((zs (o ++ c :: List.replicate (d + 1) 0)).length : Int) = (i : Int) + 1 + ((d : Int) + 1) := by rw [zs_length]; simp; omega
    have hlen2 : ((zs (o ++ (c + x * y) % 65536 :: List.replicate (d + 1) 0)).length : Int) = (i : Int) + 1 + ((d : Int) + 1) := by rw [zs_length]; simp; omega
    have hi64 := hid (wrap_succ i (by omega))
    have hi0 := hid (wrap_zero i (by omega))
    have r0 := hid (show rd (zs (o ++ c :: List.replicate (d + 1) 0)) (i : Int) = (c : Int) from rd_zs _ _ _ (by rw [← ho]; simp))
    have ry := hid (show rd (zs [y]) 0 = (y : Int) from rd_zs [y] 0 y rfl)
    have hs := hid (wrap_mul c x y hc hxb hy)
    have hy1 : ((zs [y]).length : Int) = 1 := by rw [zs_length]; rfl
    have hcarry := hid (wrap_nat ((c + x * y) / 65536) (by omega))
    have h01 := hid (show wrap64 (0 + 1) = 1 by rw [wrap_in _ (by omega) (by omega)]; rfl)
    obtain ⟨H1, H2⟩ := hmc
    generalize hpp : c + x * y = p at *
    clear hpp
    refine Evt.step (h := fun k => spec_Mul.l1 k (zs [y]) (zs (o ++ c :: List.replicate (d + 1) 0)) (i : Int) (x : Int) 0 (zs xs) ((zs xs).length : Int) (i : Int) (zs [y]) ((zs [y]).length : Int) 0) ?_ fun k => ?_
    · refine Evt.step (h := fun k => spec_Mul.l1 k (zs [y]) (zs (o ++ p % 65536 :: List.replicate (d + 1) 0)) (i : Int) (x : Int) ((p / 65536 : Nat) : Int) (zs xs) ((zs xs).length : Int) (i : Int) (zs [y]) ((zs [y]).length : Int) 1) ?_ fun k => ?_
      · refine Evt.step hI fun k => ?_
        simp only [spec_Mul.l1]
        rw [hy1, if_neg (by omega), hi64.out, hlen2, if_pos (by omega), if_pos (by omega), zs_set]
        congr 2
        rw [show (((i + 1 : Nat) : Int)).toNat = i + 1 by omega, List.set_append_right _ _ (by omega)]
        congr 1
        rw [show i + 1 - o.length = 1 by omega, List.replicate_succ]
        rfl
      · simp only [spec_Mul.l1]
        rw [hy1, if_pos (by omega), if_pos (by omega), if_pos (by omega), hi0.out, if_pos (by omega), hlen, if_pos (by omega), r0.out, ry.out, hs.out, tmod_nat, tdiv_nat, hcarry.out, h01.out, zs_set]
        congr 2
        rw [show ((i : Int)).toNat = i by omega, List.set_append_right _ _ (by omega), show i - o.length = 0 by omega]
        rfl
    · simp only [spec_Mul.l0]
      rw [if_pos (by rw [zs_length]; omega), if_pos (by omega), if_pos (by rw [zs_length]; omega), rx.out]

theorem Mul_ev (a y : Nat) (hy : y < 65536) (hy0 : y ≠ 0) (ha : (digs a).length ≤ 10000) : Evt (fun k => spec_Mul.f k (zs (digs a)) (zs (digs y))) (zs (digs (a * y))) := by
  have hyd : digs y = [y] := by rw [digs_pos hy0, Nat.mod_eq_of_lt hy, Nat.div_eq_of_lt hy, digs_zero]
  rw [hyd]
  have h := Mul_l0 (digs a) y (digs_lt a) hy ha _ 0 0 [] rfl (by omega) (by omega) rfl
  rw [List.nil_append, List.nil_append, List.drop_zero, normL_digs _ (mulL_bd _ _ _ (digs_lt a) hy (by omega)), mulL_val, bval_digs, Nat.add_zero] at h
  refine Evt.same h fun k => ?_
  simp only [spec_Mul.f]
  have hl : wrap64 (((zs (digs a)).length : Int) + ((zs [y]).length : Int)) = (((digs a).length + 1 : Nat) : Int) := by
    rw [zs_length, zs_length, wrap_in _ (by omega) (by simp; omega)]; simp
  rw [hl, if_pos (by omega), if_pos (by omega)]
  congr 1
  rw [show ((((digs a).length + 1 : Nat) : Int)).toNat = (digs a).length + 1 by omega]
  simp [zs, List.replicate_succ]
end Go.Proofs.YteokhhepnoelhaaGreatDoor
