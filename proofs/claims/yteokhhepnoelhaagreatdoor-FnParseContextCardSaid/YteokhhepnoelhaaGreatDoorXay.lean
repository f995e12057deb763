/-
  Plain arithmetic of the difference and the sum of two rows of words.
-/
import Derived.Test.YteokhhepnoelhaaGreatDoorXah
import Derived.Test.YteokhhepnoelhaaGreatDoorXaf
import Derived.Shelf.Strconv.Itoa0
import Derived.Lib.Zigzag
import Derived.Laws.Bits64
set_option linter.unusedVariables false
set_option linter.unusedSimpArgs false
namespace Go.Proofs.YteokhhepnoelhaaGreatDoor
def sbZ : List Nat → List Nat → Nat → List Nat
 | x :: xs, y :: ys, b => (x + WB - y - b) % WB :: sbZ xs ys (if x < y + b then 1 else 0)
 | _, _, _ => []
def sbC : List Nat → List Nat → Nat → Nat
 | x :: xs, y :: ys, b => sbC xs ys (if x < y + b then 1 else 0)
 | _, _, b => b
def adZ : List Nat → List Nat → Nat → List Nat
 | x :: xs, y :: ys, c => (x + y + c) % WB :: adZ xs ys ((x + y + c) / WB)
 | _, _, _ => []
def adC : List Nat → List Nat → Nat → Nat
 | x :: xs, y :: ys, c => adC xs ys ((x + y + c) / WB)
 | _, _, c => c
theorem sbZ_length (xs : List Nat) : ∀ (ys : List Nat) (b : Nat), xs.length = ys.length → (sbZ xs ys b).length = xs.length := by
 induction xs with
 | nil => intro ys b h; cases ys <;> rfl
 | cons x xs ih =>
  intro ys b h;cases ys with
  | nil => simp at h
  | cons y ys => simp [sbZ, ih ys _ (by simpa using h)]
theorem sb_snoc (xs : List Nat) (x y : Nat) : ∀ (ys : List Nat) (b : Nat), xs.length = ys.length →
 sbZ (xs ++ [x]) (ys ++ [y]) b = sbZ xs ys b ++ [(x + WB - y - sbC xs ys b) % WB] ∧ sbC (xs ++ [x]) (ys ++ [y]) b = if x < y + sbC xs ys b then 1 else 0 := by
 induction xs with
 | nil =>
  intro ys b h;cases ys with
  | nil => exact ⟨rfl, rfl⟩
  | cons y ys => simp at h
 | cons u xs ih =>
  intro ys b h;cases ys with
  | nil => simp at h
  | cons v ys =>
   obtain ⟨p, q⟩ := ih ys (if u < v + b then 1 else 0) (by simpa using h);refine ⟨?_, ?_⟩;· rw [List.cons_append, List.cons_append, sbZ, p]; rfl
   · rw [List.cons_append, List.cons_append, sbC, q]; rfl
theorem sbC_le (xs : List Nat) : ∀ (ys : List Nat) (b : Nat), b ≤ 1 → sbC xs ys b ≤ 1 := by
 induction xs with
 | nil => intro ys b hb; cases ys <;> exact hb
 | cons x xs ih =>
  intro ys b hb;cases ys with
  | nil => exact hb
  | cons y ys => exact ih ys _ (by split <;> omega)
theorem sbZ_lt (xs : List Nat) : ∀ (ys : List Nat) (b : Nat), ∀ u ∈ sbZ xs ys b, u < WB := by
 induction xs with
 | nil => intro ys b u hu; cases ys <;> simp [sbZ] at hu
 | cons x xs ih =>
  intro ys b u hu;cases ys with
  | nil => simp [sbZ] at hu
  | cons y ys =>
   rcases List.mem_cons.1 hu with rfl | hu;· exact Nat.mod_lt _ WB_pos
   · exact ih _ _ u hu
theorem nval_sb (xs : List Nat) : ∀ (ys : List Nat) (b : Nat), xs.length = ys.length → b ≤ 1 → (∀ x ∈ xs, x < WB) → (∀ y ∈ ys, y < WB) →
 nval (sbZ xs ys b) + nval ys + b = nval xs + WB ^ xs.length * sbC xs ys b := by
 induction xs with
 | nil =>
  intro ys b h hb _ _;cases ys with
  | nil => simp [sbZ, sbC, nval]
  | cons y ys => simp at h
 | cons x xs ih =>
  intro ys b h hb hx hy;cases ys with
  | nil => simp at h
  | cons y ys =>
   have hx0 := hx x (by simp);have hy0 := hy y (by simp);have i := ih ys (if x < y + b then 1 else 0) (by simpa using h) (by split <;> omega) (fun u hu => hx u (by simp [hu])) (fun u hu => hy u (by simp [hu]));rw [sbZ, sbC, nval, nval, nval, List.length_cons, Nat.pow_succ, Nat.mul_comm (WB ^ _) WB, Nat.mul_assoc];have e : (x + WB - y - b) % WB + y + b = x + WB * (if x < y + b then 1 else 0) := by
    by_cases hlt : x < y + b;· rw [if_pos hlt, Nat.mod_eq_of_lt (by omega)]; omega
    · rw [if_neg hlt, show x + WB - y - b = (x - y - b) + WB by omega, Nat.add_mod_right, Nat.mod_eq_of_lt (by omega)]; omega
   generalize (if x < y + b then 1 else 0) = c at *
   generalize (x + WB - y - b) % WB = z at *
   have i2 : WB * (nval (sbZ xs ys c) + nval ys + c) = WB * (nval xs + WB ^ xs.length * sbC xs ys c) := by rw [i]
   rw [Nat.mul_add, Nat.mul_add, Nat.mul_add] at i2;omega
theorem adZ_length (xs : List Nat) : ∀ (ys : List Nat) (c : Nat), xs.length = ys.length → (adZ xs ys c).length = xs.length := by
 induction xs with
 | nil => intro ys b h; cases ys <;> rfl
 | cons x xs ih =>
  intro ys b h;cases ys with
  | nil => simp at h
  | cons y ys => simp [adZ, ih ys _ (by simpa using h)]
theorem ad_snoc (xs : List Nat) (x y : Nat) : ∀ (ys : List Nat) (c : Nat), xs.length = ys.length →
 adZ (xs ++ [x]) (ys ++ [y]) c = adZ xs ys c ++ [(x + y + adC xs ys c) % WB] ∧ adC (xs ++ [x]) (ys ++ [y]) c = (x + y + adC xs ys c) / WB := by
 induction xs with
 | nil =>
  intro ys b h;cases ys with
  | nil => exact ⟨rfl, rfl⟩
  | cons y ys => simp at h
 | cons u xs ih =>
  intro ys b h;cases ys with
  | nil => simp at h
  | cons v ys =>
   obtain ⟨p, q⟩ := ih ys ((u + v + b) / WB) (by simpa using h);simp [adZ, adC, p, q]
theorem ad_carry {x y c : Nat} (hx : x < WB) (hy : y < WB) (hc : c ≤ 1) : (x + y + c) / WB ≤ 1 := by
 have : (x + y + c) / WB < 2 := by rw [Nat.div_lt_iff_lt_mul WB_pos]; omega
 omega
theorem adC_le (xs : List Nat) : ∀ (ys : List Nat) (c : Nat), c ≤ 1 → (∀ x ∈ xs, x < WB) → (∀ y ∈ ys, y < WB) → adC xs ys c ≤ 1 := by
 induction xs with
 | nil => intro ys b hb _ _; cases ys <;> exact hb
 | cons x xs ih =>
  intro ys b hb hx hy;cases ys with
  | nil => exact hb
  | cons y ys => exact ih ys _ (ad_carry (hx x (by simp)) (hy y (by simp)) hb) (fun u hu => hx u (by simp [hu])) (fun u hu => hy u (by simp [hu]))
theorem adZ_lt (xs : List Nat) : ∀ (ys : List Nat) (b : Nat), ∀ u ∈ adZ xs ys b, u < WB := by
 induction xs with
 | nil => intro ys b u hu; cases ys <;> simp [adZ] at hu
 | cons x xs ih =>
  intro ys b u hu;cases ys with
  | nil => simp [adZ] at hu
  | cons y ys =>
   rcases List.mem_cons.1 hu with rfl | hu;· exact Nat.mod_lt _ WB_pos
   · exact ih _ _ u hu
theorem nval_ad (xs : List Nat) : ∀ (ys : List Nat) (c : Nat), xs.length = ys.length → nval (adZ xs ys c) + WB ^ xs.length * adC xs ys c = nval xs + nval ys + c := by
 induction xs with
 | nil =>
  intro ys b h;cases ys with
  | nil => simp [adZ, adC, nval]
  | cons y ys => simp at h
 | cons x xs ih =>
  intro ys b h;cases ys with
  | nil => simp at h
  | cons y ys =>
   have i := ih ys ((x + y + b) / WB) (by simpa using h);rw [adZ, adC, nval, nval, nval, List.length_cons, Nat.pow_succ, Nat.mul_comm (WB ^ _) WB, Nat.mul_assoc];have e := Nat.div_add_mod (x + y + b) WB;generalize (x + y + b) / WB = q at *
   generalize (x + y + b) % WB = r at *
   have i2 : WB * (nval (adZ xs ys q) + WB ^ xs.length * adC xs ys q) = WB * (nval xs + nval ys + q) := by rw [i]
   rw [Nat.mul_add, Nat.mul_add, Nat.mul_add] at i2;omega
theorem sb_zero (xs : List Nat) (hx : ∀ x ∈ xs, x < WB) : sbZ xs (List.replicate xs.length 0) 0 = xs ∧ sbC xs (List.replicate xs.length 0) 0 = 0 := by
 induction xs with
 | nil => exact ⟨rfl, rfl⟩
 | cons x xs ih =>
  obtain ⟨a, b⟩ := ih (fun u hu => hx u (by simp [hu]));have h0 := hx x (by simp);rw [List.length_cons, List.replicate_succ, sbZ, sbC, if_neg (by omega), a, b];refine ⟨?_, rfl⟩;rw [Nat.sub_zero, Nat.sub_zero, Nat.add_mod_right, Nat.mod_eq_of_lt h0]
theorem nval_lt (xs : List Nat) (h : ∀ x ∈ xs, x < WB) : nval xs < WB ^ xs.length := by
 induction xs with
 | nil => simp [nval]
 | cons x xs ih =>
  have i := ih (fun u hu => h u (by simp [hu]));have h0 := h x (by simp);rw [nval, List.length_cons, Nat.pow_succ, Nat.mul_comm _ WB];have : WB * (nval xs + 1) ≤ WB * WB ^ xs.length := Nat.mul_le_mul_left _ i;rw [Nat.mul_add, Nat.mul_one] at this;omega
theorem nval_inj : ∀ (xs ys : List Nat), xs.length = ys.length → (∀ x ∈ xs, x < WB) → (∀ y ∈ ys, y < WB) → nval xs = nval ys → xs = ys := by
 intro xs;induction xs with
 | nil => intro ys h _ _ _; cases ys with | nil => rfl | cons y ys => simp at h
 | cons x xs ih =>
  intro ys h hx hy e;cases ys with
  | nil => simp at h
  | cons y ys =>
   have hx0 := hx x (by simp);have hy0 := hy y (by simp);rw [nval, nval] at e;have e1 : x = y := by
    have := congrArg (· % WB) e;simp only [Nat.add_mul_mod_self_left, Nat.mod_eq_of_lt hx0, Nat.mod_eq_of_lt hy0] at this;exact this
   subst e1;have e2 : nval xs = nval ys := Nat.eq_of_mul_eq_mul_left WB_pos (by omega);rw [ih ys (by simpa using h) (fun u hu => hx u (by simp [hu])) (fun u hu => hy u (by simp [hu])) e2]
structure GuessSt (a b u n q r : Nat) : Prop where
 eq : q * a + r = u
 le : (u * WB + n) / (a * WB + b) ≤ q
 rb : r < WB
theorem guess_init {a b u n : Nat} (ha : 0 < a) (haw : a < WB) (hn : n < WB) : GuessSt a b u n (u / a) (u % a) := by
 have hm := Nat.div_add_mod u a;have hl := Nat.mod_lt u ha;refine ⟨by rw [Nat.mul_comm]; exact hm, ?_, by omega⟩;rw [Nat.le_div_iff_mul_le ha];have k := Nat.div_mul_le_self (u * WB + n) (a * WB + b);generalize (u * WB + n) / (a * WB + b) = q at *
 rw [Nat.mul_add, ← Nat.mul_assoc] at k;have k2 : q * a * WB < (u + 1) * WB := by rw [Nat.add_mul, Nat.one_mul]; omega
 exact Nat.lt_succ_iff.1 (Nat.lt_of_mul_lt_mul_right k2)
theorem guess_down {a b u n q r : Nat} (ha : 0 < a) (st : GuessSt a b u n q r) (hc : r * WB + n < q * b) : (u * WB + n) / (a * WB + b) ≤ q - 1 ∧ 1 ≤ q := by
 obtain ⟨e1, e2, e4⟩ := st;have key : (u * WB + n) / (a * WB + b) < q := by
  rw [Nat.div_lt_iff_lt_mul (by have := Nat.mul_pos ha WB_pos; omega), Nat.mul_add, ← Nat.mul_assoc];have : (q * a + r) * WB = u * WB := by rw [e1]
  rw [Nat.add_mul] at this;omega
 generalize (u * WB + n) / (a * WB + b) = z at *
 omega
theorem guess_exit {a b u n q r : Nat} (ha : 0 < a) (st : GuessSt a b u n q r) (hc : q * b ≤ r * WB + n) : (u * WB + n) / (a * WB + b) = q := by
 obtain ⟨e1, e2, e4⟩ := st;refine Nat.le_antisymm e2 ?_;rw [Nat.le_div_iff_mul_le (by have := Nat.mul_pos ha WB_pos; omega), Nat.mul_add, ← Nat.mul_assoc];have : (q * a + r) * WB = u * WB := by rw [e1]
 rw [Nat.add_mul] at this;omega
theorem guess_step {a u q r : Nat} (e : q * a + r = u) (hq : 1 ≤ q) : (q - 1) * a + (r + a) = u := by
 obtain ⟨p, rfl⟩ : ∃ p, q = p + 1 := ⟨q - 1, by omega⟩
 rw [Nat.add_mul, Nat.one_mul] at e;rw [Nat.add_sub_cancel];omega
theorem guess_break {a b u n q r : Nat} (ha : 0 < a) (hb : b < WB) (hq : q < WB) (st : GuessSt a b u n q r) (hc : r * WB + n < q * b) (hr : WB ≤ r + a) : (u * WB + n) / (a * WB + b) = q - 1 := by
 obtain ⟨hd, hq1⟩ := guess_down ha st hc;obtain ⟨e1, e2, e4⟩ := st;have e5 := guess_step e1 hq1;refine Nat.le_antisymm hd ?_;rw [Nat.le_div_iff_mul_le (by have := Nat.mul_pos ha WB_pos; omega), Nat.mul_add, ← Nat.mul_assoc];have k : (q - 1) * b ≤ WB * WB := Nat.mul_le_mul (by omega) (by omega);have k2 : WB * WB ≤ (r + a) * WB := Nat.mul_le_mul_right _ hr;have : ((q - 1) * a + (r + a)) * WB = u * WB := by rw [e5]
 rw [Nat.add_mul] at this;omega
theorem guess_next {a b u n q r : Nat} (ha : 0 < a) (st : GuessSt a b u n q r) (hc : r * WB + n < q * b) (hr : r + a < WB) : GuessSt a b u n (q - 1) (r + a) := by
 obtain ⟨hd, hq⟩ := guess_down ha st hc;exact ⟨guess_step st.eq hq, hd, hr⟩
theorem guess_good {v2 u3 P vr ur : Nat} (hP : 0 < P) (hv : WB ≤ v2) (hvr : vr < P) (hur : ur < P) (hq : u3 / v2 < WB) :
 (u3 * P + ur) / (v2 * P + vr) ≤ u3 / v2 ∧ u3 / v2 ≤ (u3 * P + ur) / (v2 * P + vr) + 1 := by
 have hW := WB_pos;have hV : 0 < v2 * P + vr := by have := Nat.mul_pos (show 0 < v2 by omega) hP; omega
 constructor
 · rw [Nat.le_div_iff_mul_le (by omega)];have k := Nat.div_mul_le_self (u3 * P + ur) (v2 * P + vr);generalize (u3 * P + ur) / (v2 * P + vr) = q at *
   rw [Nat.mul_add, ← Nat.mul_assoc] at k;have k2 : q * v2 * P < (u3 + 1) * P := by rw [Nat.add_mul, Nat.one_mul]; omega
   exact Nat.lt_succ_iff.1 (Nat.lt_of_mul_lt_mul_right k2)
 · have k := Nat.div_mul_le_self u3 v2;generalize u3 / v2 = q at *
   rcases Nat.eq_zero_or_pos q with h0 | h0;· rw [h0]; exact Nat.zero_le _
   · obtain ⟨p, rfl⟩ : ∃ p, q = p + 1 := ⟨q - 1, by omega⟩
     refine Nat.succ_le_succ ?_;rw [Nat.le_div_iff_mul_le hV, Nat.mul_add, ← Nat.mul_assoc];rw [Nat.add_mul, Nat.one_mul] at k;have k2 : (p * v2 + v2) * P ≤ u3 * P := Nat.mul_le_mul_right _ k;rw [Nat.add_mul] at k2;have k3 : p * vr ≤ v2 * P := Nat.mul_le_mul (by omega) (by omega);omega
theorem guess_top {a V U P : Nat} (ha : WB ≤ 2 * a) (hV : V < (a + 1) * P) (hV0 : a * P ≤ V) (hU : a * WB * P ≤ U) (hUV : U < V * WB) (hP : 0 < P) : U / V ≤ WB - 1 ∧ WB - 1 ≤ U / V + 1 := by
 have hW := WB_pos;have ha0 : 0 < a := by omega
 have hVp : 0 < V := Nat.lt_of_lt_of_le (Nat.mul_pos ha0 hP) hV0;have h2 : 2 ≤ WB := by decide
 constructor
 · have : U / V < WB := by rw [Nat.div_lt_iff_lt_mul hVp, Nat.mul_comm]; exact hUV
   omega
 · have : WB - 2 ≤ U / V := by
    rw [Nat.le_div_iff_mul_le hVp];have k1 : WB * V ≤ WB * ((a + 1) * P) := Nat.mul_le_mul_left _ (by omega);have k2 : WB * P ≤ 2 * a * P := Nat.mul_le_mul_right _ ha;have k3 : 2 * (a * P) ≤ 2 * V := Nat.mul_le_mul_left _ hV0;have e1 : WB * ((a + 1) * P) = a * WB * P + WB * P := by rw [Nat.add_mul, Nat.one_mul, Nat.mul_add, ← Nat.mul_assoc, Nat.mul_comm WB a]
    have e2 : (WB - 2) * V + 2 * V = WB * V := by rw [← Nat.add_mul, Nat.sub_add_cancel h2]
    rw [Nat.mul_assoc] at k2;omega
   omega
end Go.Proofs.YteokhhepnoelhaaGreatDoor
namespace Go.Proofs.YteokhhepnoelhaaGreatDoor
set_option maxRecDepth 100000
structure HalfSt (a b u n q r : Nat) : Prop where
 eq : q * a + r = u
 le : (u * 4294967296 + n) / (a * 4294967296 + b) ≤ q
 qb : q ≤ 4294967297
 rb : r < 4294967296
structure HalfIn (a b u n : Nat) : Prop where
 a1 : 2147483648 ≤ a
 a2 : a < 4294967296
 b2 : b < 4294967296
 n2 : n < 4294967296
 uy : u < a * 4294967296 + b
theorem half_init {a b u n : Nat} (h : HalfIn a b u n) : HalfSt a b u n (u / a) (u % a) := by
 obtain ⟨h1, h2, h3, h4, h5⟩ := h;have hm := Nat.div_add_mod u a;have hl := Nat.mod_lt u (show a > 0 by omega);refine ⟨by rw [Nat.mul_comm]; exact hm, ?_, ?_, by omega⟩
 · rw [Nat.le_div_iff_mul_le (by omega)];have k := Nat.div_mul_le_self (u * 4294967296 + n) (a * 4294967296 + b);generalize (u * 4294967296 + n) / (a * 4294967296 + b) = q at *
   rw [Nat.mul_add, ← Nat.mul_assoc] at k;generalize q * a = qa at *
   omega
 · have : u / a < 4294967298 := by
    rw [Nat.div_lt_iff_lt_mul (by omega)];omega
   omega
theorem half_small {a b u n : Nat} (h : HalfIn a b u n) : (u * 4294967296 + n) / (a * 4294967296 + b) < 4294967296 := by
 obtain ⟨h1, h2, h3, h4, h5⟩ := h;refine Nat.div_lt_of_lt_mul ?_;omega
theorem half_down {a b u n q r : Nat} (h : HalfIn a b u n) (st : HalfSt a b u n q r) (hc : 4294967296 ≤ q ∨ 4294967296 * r + n < q * b) : (u * 4294967296 + n) / (a * 4294967296 + b) ≤ q - 1 ∧ 1 ≤ q := by
 have hs := half_small h;obtain ⟨h1, h2, h3, h4, h5⟩ := h;obtain ⟨e1, e2, e3, e4⟩ := st;have key : (u * 4294967296 + n) / (a * 4294967296 + b) < q := by
  rcases hc with hc | hc;· omega
  · rw [Nat.div_lt_iff_lt_mul (by omega), Nat.mul_add, ← Nat.mul_assoc];generalize q * a = qa at *
    omega
 generalize (u * 4294967296 + n) / (a * 4294967296 + b) = z at *
 omega
theorem half_exit {a b u n q r : Nat} (h : HalfIn a b u n) (st : HalfSt a b u n q r) (hc : q * b ≤ 4294967296 * r + n) : (u * 4294967296 + n) / (a * 4294967296 + b) = q := by
 obtain ⟨h1, h2, h3, h4, h5⟩ := h;obtain ⟨e1, e2, e3, e4⟩ := st;refine Nat.le_antisymm e2 ?_;rw [Nat.le_div_iff_mul_le (by omega), Nat.mul_add, ← Nat.mul_assoc];generalize q * a = qa at *
 omega
theorem half_step {a u q r : Nat} (e : q * a + r = u) (hq : 1 ≤ q) : (q - 1) * a + (r + a) = u := by
 obtain ⟨p, rfl⟩ : ∃ p, q = p + 1 := ⟨q - 1, by omega⟩
 rw [Nat.add_mul, Nat.one_mul] at e;rw [Nat.add_sub_cancel];omega
theorem half_break {a b u n q r : Nat} (h : HalfIn a b u n) (st : HalfSt a b u n q r) (hc : 4294967296 ≤ q ∨ 4294967296 * r + n < q * b) (hr : 4294967296 ≤ r + a) : (u * 4294967296 + n) / (a * 4294967296 + b) = q - 1 := by
 obtain ⟨hd, hq⟩ := half_down h st hc;obtain ⟨h1, h2, h3, h4, h5⟩ := h;obtain ⟨e1, e2, e3, e4⟩ := st;have e5 := half_step e1 hq;refine Nat.le_antisymm hd ?_;rw [Nat.le_div_iff_mul_le (by omega), Nat.mul_add, ← Nat.mul_assoc];have k : (q - 1) * b ≤ 4294967296 * 4294967296 := Nat.mul_le_mul (by omega) (by omega);generalize (q - 1) * a = qa at *
 generalize (q - 1) * b = qb at *
 omega
theorem half_next {a b u n q r : Nat} (h : HalfIn a b u n) (st : HalfSt a b u n q r) (hc : 4294967296 ≤ q ∨ 4294967296 * r + n < q * b) (hr : r + a < 4294967296) : HalfSt a b u n (q - 1) (r + a) := by
 obtain ⟨hd, hq⟩ := half_down h st hc;exact ⟨half_step st.eq hq, hd, by have := st.qb; omega, hr⟩
theorem half_mul {a b u n q r : Nat} (h : HalfIn a b u n) (st : HalfSt a b u n q r) : q * b < 18446744073709551616 := by
 have k : q * b ≤ 4294967297 * 4294967295 := Nat.mul_le_mul st.qb (by have := h.b2; omega);omega
theorem half_join {y hi l1 l0 q1 r1 q0 r0 : Nat} (hm : y * q1 + r1 = hi * 4294967296 + l1) (hm2 : y * q0 + r0 = r1 * 4294967296 + l0) : y * (q1 * 4294967296 + q0) + r0 = hi * 18446744073709551616 + (l1 * 4294967296 + l0) := by
 rw [Nat.mul_add, ← Nat.mul_assoc];have e : (y * q1 + r1) * 4294967296 = (hi * 4294967296 + l1) * 4294967296 := by rw [hm]
 rw [Nat.add_mul, Nat.add_mul, Nat.mul_assoc hi] at e;rw [show 4294967296 * 4294967296 = 18446744073709551616 from rfl] at e;rw [Nat.add_assoc, hm2, ← Nat.add_assoc, e, Nat.add_assoc]
theorem half_both {y hi l1 l0 : Nat} (hy : 0 < y) :
 (hi * 18446744073709551616 + (l1 * 4294967296 + l0)) / y = (hi * 4294967296 + l1) / y * 4294967296 + ((hi * 4294967296 + l1) % y * 4294967296 + l0) / y ∧
 (hi * 18446744073709551616 + (l1 * 4294967296 + l0)) % y = ((hi * 4294967296 + l1) % y * 4294967296 + l0) % y :=
 div_of_eq (half_join (Nat.div_add_mod (hi * 4294967296 + l1) y) (Nat.div_add_mod ((hi * 4294967296 + l1) % y * 4294967296 + l0) y)) (Nat.mod_lt _ hy)
end Go.Proofs.YteokhhepnoelhaaGreatDoor
namespace Go.Proofs.YteokhhepnoelhaaGreatDoor
open Go.RowKit
theorem len64_any (x : Int) (w : World) (h0 : 0 ≤ x) (h1 : x ≤ 18446744073709551615) :
 Calls Tryz.prog 223 #[.int .u64 x] w fun e w' => e = .returned (.int .i64 (Lib.bitLen x.toNat)) ∧ w' = w := Any.bits_Len64 (ρ := Tryz.lays125_ren) { Tryz.lays125 with } x w h0 h1
theorem lz64_norm (y : Nat) (h1 : 9223372036854775808 ≤ y) (h2 : y < 18446744073709551616) (w : World) : Calls Tryz.prog 318 #[.int .u64 (y : Int)] w fun e w' => e = .returned (.int .i64 0) ∧ w = w' := by
 have hb := libBitLen y h2;rw [blen_eq (b := 63) (by omega) (by omega)] at hb;have HB := hid hb;clear hb;go_enter Tryz.func318, Tryz.ntmps318;go_wp2_with (go_at_call 223; refine (len64_any _ _ (by omega) (by omega)).mono ?_; rintro e w1 ⟨rfl, rfl⟩; rw [Int.toNat_natCast, HB.out]);go_ret;exact ⟨rfl, rfl⟩
theorem and_half (y a b : Nat) (h : y = a * 4294967296 + b) (hb : b < 4294967296) (hy : y < 18446744073709551616) : bits .and .u64 (y : Int) 4294967295 = (b : Int) := by
 have := u64_and_nat y 4294967295 (by omega) (by omega);rw [show ((4294967295 : Nat) : Int) = 4294967295 from rfl, show (4294967295 : Nat) = 2 ^ 32 - 1 by rfl, Nat.and_two_pow_sub_one_eq_mod] at this;rw [this, show (2 : Nat) ^ 32 = 4294967296 by rfl];omega
theorem or_none (x : Nat) (h : x < 18446744073709551616) : bits .or .u64 (x : Int) 0 = (x : Int) := by
 have := u64_or_nat x 0 (by omega) (by omega);rw [show ((0 : Nat) : Int) = 0 from rfl, Nat.or_zero] at this;exact this
theorem half_facts (u a b n q r : Nat) (h : HalfIn a b u n) (st : HalfSt a b u n q r) :
 IntKind.u64.wrap ((q : Int) * (b : Int)) = ((q * b : Nat) : Int) ∧ IntKind.u64.wrap (4294967296 * (r : Int)) = ((4294967296 * r : Nat) : Int) ∧ IntKind.u64.wrap (4294967296 * (r : Int) + (n : Int)) = ((4294967296 * r + n : Nat) : Int) ∧ IntKind.u64.wrap ((r : Int) + (a : Int)) = ((r + a : Nat) : Int) := by
 have h1 := half_mul h st;have h2 := st.rb;have h3 := h.n2;have h4 := h.a2;refine ⟨?_, ?_, ?_, ?_⟩
 · rw [← Int.natCast_mul];generalize q * b = z at *
   rw [u64_wrap]; omega
 · rw [u64_wrap]; omega
 · rw [u64_wrap]; omega
 · rw [u64_wrap]; omega
theorem half_ahead (u a b n : Nat) (h : HalfIn a b u n) : ∃ q r, HalfSt a b u n q r ∧ IntKind.u64.wrap ((u : Int) / (a : Int)) = (q : Int) ∧ IntKind.u64.wrap ((q : Int) * (a : Int)) = (q : Int) * (a : Int) ∧ IntKind.u64.wrap ((u : Int) - (q : Int) * (a : Int)) = (r : Int) := by
 have st := half_init h;refine ⟨_, _, st, ?_, ?_, ?_⟩
 · rw [show (u : Int) / (a : Int) = ((u / a : Nat) : Int) by simp, u64_wrap];have := st.qb;generalize u / a = q at *
   omega
 · have := st.eq;have h5 := h.uy; have h6 := h.a2; have h7 := h.b2;rw [← Int.natCast_mul, u64_wrap];generalize u / a * a = z at *
   omega
 · have := st.eq; have h8 := st.rb;rw [← Int.natCast_mul, u64_wrap];generalize u / a * a = z at *
   generalize u % a = r at *
   omega
theorem half_rest (u y n Q R : Nat) (hn : n < 4294967296) (hR : R < 18446744073709551616) (h : y * Q + R = u * 4294967296 + n) :
 IntKind.u64.wrap (IntKind.u64.wrap (IntKind.u64.wrap ((u : Int) * 4294967296) + (n : Int)) - IntKind.u64.wrap ((Q : Int) * (y : Int))) = (R : Int) := by
 simp only [u64_wrap];rw [← Int.natCast_mul, Nat.mul_comm Q y];generalize y * Q = z at *
 omega
set_option maxRecDepth 100000 in
set_option maxHeartbeats 4000000 in
theorem bitsDiv64_norm (hi lo y l1 l0 a b : Nat) (hlo : lo = l1 * 4294967296 + l0) (hy : y = a * 4294967296 + b) (ha : 2147483648 ≤ a) (ha' : a < 4294967296) (hb : b < 4294967296) (h1 : l1 < 4294967296) (h0 : l0 < 4294967296) (hu : hi < y) (hi0 : hi ≠ 0) (w : World) :
 Calls Tryz.prog 299 #[.int .u64 (hi : Int), .int .u64 (lo : Int), .int .u64 (y : Int)] w
  fun e w' => e = .returned (.tuple #[.int .u64 (((hi * 18446744073709551616 + lo) / y : Nat) : Int), .int .u64 (((hi * 18446744073709551616 + lo) % y : Nat) : Int)]) ∧ w = w' := by
 have hyl : y < 18446744073709551616 := by omega
 have hll : lo < 18446744073709551616 := by omega
 have hI1 : HalfIn a b hi l1 := ⟨ha, ha', hb, h1, by omega⟩
 have hy0 : 0 < y := by omega
 have hbo := half_both (y := y) (hi := hi) (l1 := l1) (l0 := l0) hy0;have hm1 := Nat.div_add_mod (hi * 4294967296 + l1) y;have hl1 := Nat.mod_lt (hi * 4294967296 + l1) hy0;have hs1 := half_small hI1;rw [← hy] at hs1;obtain ⟨Q1, hQ1⟩ : ∃ Q, (hi * 4294967296 + l1) / y = Q := ⟨_, rfl⟩
 obtain ⟨R1, hR1⟩ : ∃ R, (hi * 4294967296 + l1) % y = R := ⟨_, rfl⟩
 rw [hQ1, hR1] at hbo hm1;rw [hR1] at hl1;rw [hQ1] at hs1;have hI2 : HalfIn a b R1 l0 := ⟨ha, ha', hb, h0, by omega⟩
 have hm2 := Nat.div_add_mod (R1 * 4294967296 + l0) y;have hl2 := Nat.mod_lt (R1 * 4294967296 + l0) hy0;have hs2 := half_small hI2;rw [← hy] at hs2;obtain ⟨Q0, hQ0⟩ : ∃ Q, (R1 * 4294967296 + l0) / y = Q := ⟨_, rfl⟩
 obtain ⟨R0, hR0⟩ : ∃ R, (R1 * 4294967296 + l0) % y = R := ⟨_, rfl⟩
 rw [hQ0, hR0] at hbo hm2;rw [hR0] at hl2;rw [hQ0] at hs2;rw [hlo, hbo.1, hbo.2, ← hlo];have w1 := half_rest hi y l1 Q1 R1 h1 (by omega) hm1;have w2 := half_rest R1 y l0 Q0 R0 h0 (by omega) hm2;have w3 : IntKind.u64.wrap ((Q1 : Int) * 4294967296) = ((Q1 * 4294967296 : Nat) : Int) := by rw [u64_wrap]; omega
 have w4 : IntKind.u64.wrap (((Q1 * 4294967296 : Nat) : Int) + (Q0 : Int)) = ((Q1 * 4294967296 + Q0 : Nat) : Int) := by rw [u64_wrap]; omega
 have w5 : IntKind.u64.wrap ((Q1 : Int) * 4294967296 + (Q0 : Int)) = ((Q1 * 4294967296 + Q0 : Nat) : Int) := by rw [u64_wrap]; omega
 obtain ⟨q, r, ST, t1, t2, t3⟩ := half_ahead hi a b l1 hI1;obtain ⟨q2, r2, ST2, t4, t5, t6⟩ := half_ahead R1 a b l0 hI2;rw [hy] at hQ1 hQ0;have HLZ := hid (lz64_norm y (by omega) (by omega));have y1 : ((y : Int) == 0) = false := beq_eq_false_iff_ne.2 (by omega);have y2 : ¬ ((y : Int) ≤ (hi : Int)) := by omega
 have y3 : ((hi : Int) == 0) = false := beq_eq_false_iff_ne.2 (by omega);have HI1 := hid hI1; have HI2 := hid hI2; have HQ1 := hid hQ1; have HQ0 := hid hQ0;have HW1 := hid w1; have HW2 := hid w2; have W3 := hid w3; have W4 := hid w4; have W5 := hid w5;have HT4 := hid t4; have HT5 := hid t5; have HT6 := hid t6;have b1 : IntKind.u64.wrap ((y : Int) * 1) = (y : Int) := by rw [u64_wrap]; omega
 have b2 : IntKind.u64.wrap (lo : Int) = (lo : Int) := by rw [u64_wrap]; omega
 have s1 : (y : Int) / 4294967296 = (a : Int) := by omega
 have s2 : bits .and .u64 (y : Int) 4294967295 = (b : Int) := and_half y a b hy hb hyl;have s3 : (lo : Int) / 18446744073709551616 = 0 := by omega
 have s4 : bits .or .u64 (hi : Int) 0 = (hi : Int) := or_none hi (by omega);have s5 : (lo : Int) / 4294967296 = (l1 : Int) := by omega
 have s6 : bits .and .u64 (lo : Int) 4294967295 = (l0 : Int) := and_half lo l1 l0 hlo h0 hll;have ST := hid ST; have ST2 := hid ST2;clear hlo hy hI1 hI2 hbo hm1 hm2 hl1 hl2 hQ1 hQ0 hR1 hR0 w1 w2 w3 w4 w5 t4 t5 t6 hs1 hs2;go_enter Tryz.func299, Tryz.ntmps299;go_wp2_with (go_at_call 318; refine (HLZ.out _).mono ?_; rintro e w1 ⟨rfl, rfl⟩);clear b1 b2 s1 s2 s3 s4 s5 s6 t1 t2 t3;have W1 := HW1.out; have T4 := HT4.out; have T5 := HT5.out; have T6 := HT6.out;go_loop [15, 16] (fun q1 r1 => ∃ q r : Nat, q1 = .int .u64 (q : Int) ∧ r1 = .int .u64 (r : Int) ∧ Hid (HalfSt a b hi l1 q r)) (fun q1 _ => (intOf q1).toNat);case atStart => exact ⟨q, r, rfl, rfl, ST⟩
 case round =>
  obtain ⟨q, r, rfl, rfl, hS⟩ := hrel;obtain ⟨f1, f2, f3, f5⟩ := half_facts _ _ _ _ _ _ HI1.out hS.out;obtain ⟨m, hm⟩ : ∃ m, q * b = m := ⟨_, rfl⟩
  obtain ⟨z, hz⟩ : ∃ z, 4294967296 * r + l1 = z := ⟨_, rfl⟩
  obtain ⟨rn, hrn⟩ : ∃ rn, r + a = rn := ⟨_, rfl⟩
  rw [hm] at f1;rw [hz] at f3;rw [hrn] at f5;have f2 : IntKind.u64.wrap (4294967296 * (r : Int)) = 4294967296 * (r : Int) := by rw [f2]; omega
  have HM := hid hm; have HZ := hid hz; have HRN := hid hrn;clear hm hz hrn;by_cases c1 : 4294967296 ≤ q
  · have hc : 4294967296 ≤ q ∨ 4294967296 * r + l1 < q * b := .inl c1;have hd := half_down HI1.out hS.out hc;have hqb := hS.out.qb;have HC := hid hc;clear hc;by_cases c2 : 4294967296 ≤ rn
    · have f7 : (4294967296 : Int) ≤ (rn : Int) := by omega
      have hq := HQ1.out.symm.trans (half_break HI1.out hS.out HC.out (by rw [HRN.out]; exact c2));have f4 : IntKind.u64.wrap ((q : Int) - 1) = (Q1 : Int) := by rw [u64_wrap]; omega
      clear hd hqb hq;have f6 : (4294967296 : Int) ≤ (q : Int) := by omega
      go_wp2_with fail;clear f1 f3 f5 W1 T4 T5 T6;have W2 := HW2.out; have V3 := W3.out; have V4 := W4.out; have V5 := W5.out;go_loop [18, 16] (fun q1 r1 => ∃ q r : Nat, q1 = .int .u64 (q : Int) ∧ r1 = .int .u64 (r : Int) ∧ Hid (HalfSt a b R1 l0 q r)) (fun q1 _ => (intOf q1).toNat);case atStart => exact ⟨q2, r2, rfl, rfl, ST2⟩
      case round =>
       obtain ⟨q, r, rfl, rfl, hS⟩ := hrel;obtain ⟨f1, f2, f3, f5⟩ := half_facts _ _ _ _ _ _ HI2.out hS.out;obtain ⟨m, hm⟩ : ∃ m, q * b = m := ⟨_, rfl⟩
       obtain ⟨z, hz⟩ : ∃ z, 4294967296 * r + l0 = z := ⟨_, rfl⟩
       obtain ⟨rn, hrn⟩ : ∃ rn, r + a = rn := ⟨_, rfl⟩
       rw [hm] at f1;rw [hz] at f3;rw [hrn] at f5;have f2 : IntKind.u64.wrap (4294967296 * (r : Int)) = 4294967296 * (r : Int) := by rw [f2]; omega
       have HM := hid hm; have HZ := hid hz; have HRN := hid hrn;clear hm hz hrn;by_cases c1 : 4294967296 ≤ q
       · have hc : 4294967296 ≤ q ∨ 4294967296 * r + l0 < q * b := .inl c1;have hd := half_down HI2.out hS.out hc;have hqb := hS.out.qb;have HC := hid hc;clear hc;by_cases c2 : 4294967296 ≤ rn
         · have f7 : (4294967296 : Int) ≤ (rn : Int) := by omega
           have hq := HQ0.out.symm.trans (half_break HI2.out hS.out HC.out (by rw [HRN.out]; exact c2));have f4 : IntKind.u64.wrap ((q : Int) - 1) = (Q0 : Int) := by rw [u64_wrap]; omega
           clear hd hqb hq;have f6 : (4294967296 : Int) ≤ (q : Int) := by omega
           go_wp2_with fail;go_ret2;exact ⟨by first | rfl | (congr 4 <;> omega), rfl⟩
         · have f7 : ¬ (4294967296 : Int) ≤ (rn : Int) := by omega
           have hn := hid (half_next HI2.out hS.out HC.out (by rw [HRN.out]; omega));rw [HRN.out] at hn;have f4 : IntKind.u64.wrap ((q : Int) - 1) = ((q - 1 : Nat) : Int) := by rw [u64_wrap]; omega
           have hq1 := hd.2;clear hd hqb;have f6 : (4294967296 : Int) ≤ (q : Int) := by omega
           go_wp2_with fail;go_round
           case rel => exact ⟨q - 1, rn, rfl, rfl, hn⟩
           case measure => simp [intOf]; omega
       · by_cases c3 : z < m
         · have hc : 4294967296 ≤ q ∨ 4294967296 * r + l0 < q * b := .inr (by rw [HZ.out, HM.out]; exact c3);have hd := half_down HI2.out hS.out hc;have hqb := hS.out.qb;have HC := hid hc;clear hc;by_cases c2 : 4294967296 ≤ rn
           · have f7 : (4294967296 : Int) ≤ (rn : Int) := by omega
             have hq := HQ0.out.symm.trans (half_break HI2.out hS.out HC.out (by rw [HRN.out]; exact c2));have f4 : IntKind.u64.wrap ((q : Int) - 1) = (Q0 : Int) := by rw [u64_wrap]; omega
             clear hd hqb hq;have f6 : ¬ (4294967296 : Int) ≤ (q : Int) := by omega
             have f8 : ((z : Int) < (m : Int)) = True := eq_true (by omega);go_wp2_with fail;go_ret2;exact ⟨by first | rfl | (congr 4 <;> omega), rfl⟩
           · have f7 : ¬ (4294967296 : Int) ≤ (rn : Int) := by omega
             have hn := hid (half_next HI2.out hS.out HC.out (by rw [HRN.out]; omega));rw [HRN.out] at hn;have f4 : IntKind.u64.wrap ((q : Int) - 1) = ((q - 1 : Nat) : Int) := by rw [u64_wrap]; omega
             have hq1 := hd.2;clear hd hqb;have f6 : ¬ (4294967296 : Int) ≤ (q : Int) := by omega
             have f8 : ((z : Int) < (m : Int)) = True := eq_true (by omega);go_wp2_with fail;go_round
             case rel => exact ⟨q - 1, rn, rfl, rfl, hn⟩
             case measure => simp [intOf]; omega
         · have hq : Q0 = q := HQ0.out.symm.trans (half_exit HI2.out hS.out (by rw [HZ.out, HM.out]; omega));have f6 : ¬ (4294967296 : Int) ≤ (q : Int) := by omega
           have f8 : ((z : Int) < (m : Int)) = False := eq_false (by omega);clear c1 c3;subst hq;go_wp2_with fail;go_ret2;exact ⟨by first | rfl | (congr 4 <;> omega), rfl⟩
    · have f7 : ¬ (4294967296 : Int) ≤ (rn : Int) := by omega
      have hn := hid (half_next HI1.out hS.out HC.out (by rw [HRN.out]; omega));rw [HRN.out] at hn;have f4 : IntKind.u64.wrap ((q : Int) - 1) = ((q - 1 : Nat) : Int) := by rw [u64_wrap]; omega
      have hq1 := hd.2;clear hd hqb;have f6 : (4294967296 : Int) ≤ (q : Int) := by omega
      go_wp2_with fail;go_round
      case rel => exact ⟨q - 1, rn, rfl, rfl, hn⟩
      case measure => simp [intOf]; omega
  · by_cases c3 : z < m
    · have hc : 4294967296 ≤ q ∨ 4294967296 * r + l1 < q * b := .inr (by rw [HZ.out, HM.out]; exact c3);have hd := half_down HI1.out hS.out hc;have hqb := hS.out.qb;have HC := hid hc;clear hc;by_cases c2 : 4294967296 ≤ rn
      · have f7 : (4294967296 : Int) ≤ (rn : Int) := by omega
        have hq := HQ1.out.symm.trans (half_break HI1.out hS.out HC.out (by rw [HRN.out]; exact c2));have f4 : IntKind.u64.wrap ((q : Int) - 1) = (Q1 : Int) := by rw [u64_wrap]; omega
        clear hd hqb hq;have f6 : ¬ (4294967296 : Int) ≤ (q : Int) := by omega
        have f8 : ((z : Int) < (m : Int)) = True := eq_true (by omega);go_wp2_with fail;clear f1 f3 f5 W1 T4 T5 T6;have W2 := HW2.out; have V3 := W3.out; have V4 := W4.out; have V5 := W5.out;go_loop [18, 16] (fun q1 r1 => ∃ q r : Nat, q1 = .int .u64 (q : Int) ∧ r1 = .int .u64 (r : Int) ∧ Hid (HalfSt a b R1 l0 q r)) (fun q1 _ => (intOf q1).toNat);case atStart => exact ⟨q2, r2, rfl, rfl, ST2⟩
        case round =>
         obtain ⟨q, r, rfl, rfl, hS⟩ := hrel;obtain ⟨f1, f2, f3, f5⟩ := half_facts _ _ _ _ _ _ HI2.out hS.out;obtain ⟨m, hm⟩ : ∃ m, q * b = m := ⟨_, rfl⟩
         obtain ⟨z, hz⟩ : ∃ z, 4294967296 * r + l0 = z := ⟨_, rfl⟩
         obtain ⟨rn, hrn⟩ : ∃ rn, r + a = rn := ⟨_, rfl⟩
         rw [hm] at f1;rw [hz] at f3;rw [hrn] at f5;have f2 : IntKind.u64.wrap (4294967296 * (r : Int)) = 4294967296 * (r : Int) := by rw [f2]; omega
         have HM := hid hm; have HZ := hid hz; have HRN := hid hrn;clear hm hz hrn;by_cases c1 : 4294967296 ≤ q
         · have hc : 4294967296 ≤ q ∨ 4294967296 * r + l0 < q * b := .inl c1;have hd := half_down HI2.out hS.out hc;have hqb := hS.out.qb;have HC := hid hc;clear hc;by_cases c2 : 4294967296 ≤ rn
           · have f7 : (4294967296 : Int) ≤ (rn : Int) := by omega
             have hq := HQ0.out.symm.trans (half_break HI2.out hS.out HC.out (by rw [HRN.out]; exact c2));have f4 : IntKind.u64.wrap ((q : Int) - 1) = (Q0 : Int) := by rw [u64_wrap]; omega
             clear hd hqb hq;have f6 : (4294967296 : Int) ≤ (q : Int) := by omega
             go_wp2_with fail;go_ret2;exact ⟨by first | rfl | (congr 4 <;> omega), rfl⟩
           · have f7 : ¬ (4294967296 : Int) ≤ (rn : Int) := by omega
             have hn := hid (half_next HI2.out hS.out HC.out (by rw [HRN.out]; omega));rw [HRN.out] at hn;have f4 : IntKind.u64.wrap ((q : Int) - 1) = ((q - 1 : Nat) : Int) := by rw [u64_wrap]; omega
             have hq1 := hd.2;clear hd hqb;have f6 : (4294967296 : Int) ≤ (q : Int) := by omega
             go_wp2_with fail;go_round
             case rel => exact ⟨q - 1, rn, rfl, rfl, hn⟩
             case measure => simp [intOf]; omega
         · by_cases c3 : z < m
           · have hc : 4294967296 ≤ q ∨ 4294967296 * r + l0 < q * b := .inr (by rw [HZ.out, HM.out]; exact c3);have hd := half_down HI2.out hS.out hc;have hqb := hS.out.qb;have HC := hid hc;clear hc;by_cases c2 : 4294967296 ≤ rn
             · have f7 : (4294967296 : Int) ≤ (rn : Int) := by omega
               have hq := HQ0.out.symm.trans (half_break HI2.out hS.out HC.out (by rw [HRN.out]; exact c2));have f4 : IntKind.u64.wrap ((q : Int) - 1) = (Q0 : Int) := by rw [u64_wrap]; omega
               clear hd hqb hq;have f6 : ¬ (4294967296 : Int) ≤ (q : Int) := by omega
               have f8 : ((z : Int) < (m : Int)) = True := eq_true (by omega);go_wp2_with fail;go_ret2;exact ⟨by first | rfl | (congr 4 <;> omega), rfl⟩
             · have f7 : ¬ (4294967296 : Int) ≤ (rn : Int) := by omega
               have hn := hid (half_next HI2.out hS.out HC.out (by rw [HRN.out]; omega));rw [HRN.out] at hn;have f4 : IntKind.u64.wrap ((q : Int) - 1) = ((q - 1 : Nat) : Int) := by rw [u64_wrap]; omega
               have hq1 := hd.2;clear hd hqb;have f6 : ¬ (4294967296 : Int) ≤ (q : Int) := by omega
               have f8 : ((z : Int) < (m : Int)) = True := eq_true (by omega);go_wp2_with fail;go_round
               case rel => exact ⟨q - 1, rn, rfl, rfl, hn⟩
               case measure => simp [intOf]; omega
           · have hq : Q0 = q := HQ0.out.symm.trans (half_exit HI2.out hS.out (by rw [HZ.out, HM.out]; omega));have f6 : ¬ (4294967296 : Int) ≤ (q : Int) := by omega
             have f8 : ((z : Int) < (m : Int)) = False := eq_false (by omega);clear c1 c3;subst hq;go_wp2_with fail;go_ret2;exact ⟨by first | rfl | (congr 4 <;> omega), rfl⟩
      · have f7 : ¬ (4294967296 : Int) ≤ (rn : Int) := by omega
        have hn := hid (half_next HI1.out hS.out HC.out (by rw [HRN.out]; omega));rw [HRN.out] at hn;have f4 : IntKind.u64.wrap ((q : Int) - 1) = ((q - 1 : Nat) : Int) := by rw [u64_wrap]; omega
        have hq1 := hd.2;clear hd hqb;have f6 : ¬ (4294967296 : Int) ≤ (q : Int) := by omega
        have f8 : ((z : Int) < (m : Int)) = True := eq_true (by omega);go_wp2_with fail;go_round
        case rel => exact ⟨q - 1, rn, rfl, rfl, hn⟩
        case measure => simp [intOf]; omega
    · have hq : Q1 = q := HQ1.out.symm.trans (half_exit HI1.out hS.out (by rw [HZ.out, HM.out]; omega));have f6 : ¬ (4294967296 : Int) ≤ (q : Int) := by omega
      have f8 : ((z : Int) < (m : Int)) = False := eq_false (by omega);clear c1 c3;subst hq;go_wp2_with fail;clear f1 f3 f5 W1 T4 T5 T6;have W2 := HW2.out; have V3 := W3.out; have V4 := W4.out; have V5 := W5.out;go_loop [18, 16] (fun q1 r1 => ∃ q r : Nat, q1 = .int .u64 (q : Int) ∧ r1 = .int .u64 (r : Int) ∧ Hid (HalfSt a b R1 l0 q r)) (fun q1 _ => (intOf q1).toNat);case atStart => exact ⟨q2, r2, rfl, rfl, ST2⟩
      case round =>
       obtain ⟨q, r, rfl, rfl, hS⟩ := hrel;obtain ⟨f1, f2, f3, f5⟩ := half_facts _ _ _ _ _ _ HI2.out hS.out;obtain ⟨m, hm⟩ : ∃ m, q * b = m := ⟨_, rfl⟩
       obtain ⟨z, hz⟩ : ∃ z, 4294967296 * r + l0 = z := ⟨_, rfl⟩
       obtain ⟨rn, hrn⟩ : ∃ rn, r + a = rn := ⟨_, rfl⟩
       rw [hm] at f1;rw [hz] at f3;rw [hrn] at f5;have f2 : IntKind.u64.wrap (4294967296 * (r : Int)) = 4294967296 * (r : Int) := by rw [f2]; omega
       have HM := hid hm; have HZ := hid hz; have HRN := hid hrn;clear hm hz hrn;by_cases c1 : 4294967296 ≤ q
       · have hc : 4294967296 ≤ q ∨ 4294967296 * r + l0 < q * b := .inl c1;have hd := half_down HI2.out hS.out hc;have hqb := hS.out.qb;have HC := hid hc;clear hc;by_cases c2 : 4294967296 ≤ rn
         · have f7 : (4294967296 : Int) ≤ (rn : Int) := by omega
           have hq := HQ0.out.symm.trans (half_break HI2.out hS.out HC.out (by rw [HRN.out]; exact c2));have f4 : IntKind.u64.wrap ((q : Int) - 1) = (Q0 : Int) := by rw [u64_wrap]; omega
           clear hd hqb hq;have f6 : (4294967296 : Int) ≤ (q : Int) := by omega
           go_wp2_with fail;go_ret2;exact ⟨by first | rfl | (congr 4 <;> omega), rfl⟩
         · have f7 : ¬ (4294967296 : Int) ≤ (rn : Int) := by omega
           have hn := hid (half_next HI2.out hS.out HC.out (by rw [HRN.out]; omega));rw [HRN.out] at hn;have f4 : IntKind.u64.wrap ((q : Int) - 1) = ((q - 1 : Nat) : Int) := by rw [u64_wrap]; omega
           have hq1 := hd.2;clear hd hqb;have f6 : (4294967296 : Int) ≤ (q : Int) := by omega
           go_wp2_with fail;go_round
           case rel => exact ⟨q - 1, rn, rfl, rfl, hn⟩
           case measure => simp [intOf]; omega
       · by_cases c3 : z < m
         · have hc : 4294967296 ≤ q ∨ 4294967296 * r + l0 < q * b := .inr (by rw [HZ.out, HM.out]; exact c3);have hd := half_down HI2.out hS.out hc;have hqb := hS.out.qb;have HC := hid hc;clear hc;by_cases c2 : 4294967296 ≤ rn
           · have f7 : (4294967296 : Int) ≤ (rn : Int) := by omega
             have hq := HQ0.out.symm.trans (half_break HI2.out hS.out HC.out (by rw [HRN.out]; exact c2));have f4 : IntKind.u64.wrap ((q : Int) - 1) = (Q0 : Int) := by rw [u64_wrap]; omega
             clear hd hqb hq;have f6 : ¬ (4294967296 : Int) ≤ (q : Int) := by omega
             have f8 : ((z : Int) < (m : Int)) = True := eq_true (by omega);go_wp2_with fail;go_ret2;exact ⟨by first | rfl | (congr 4 <;> omega), rfl⟩
           · have f7 : ¬ (4294967296 : Int) ≤ (rn : Int) := by omega
             have hn := hid (half_next HI2.out hS.out HC.out (by rw [HRN.out]; omega));rw [HRN.out] at hn;have f4 : IntKind.u64.wrap ((q : Int) - 1) = ((q - 1 : Nat) : Int) := by rw [u64_wrap]; omega
             have hq1 := hd.2;clear hd hqb;have f6 : ¬ (4294967296 : Int) ≤ (q : Int) := by omega
             have f8 : ((z : Int) < (m : Int)) = True := eq_true (by omega);go_wp2_with fail;go_round
             case rel => exact ⟨q - 1, rn, rfl, rfl, hn⟩
             case measure => simp [intOf]; omega
         · have hq : Q0 = q := HQ0.out.symm.trans (half_exit HI2.out hS.out (by rw [HZ.out, HM.out]; omega));have f6 : ¬ (4294967296 : Int) ≤ (q : Int) := by omega
           have f8 : ((z : Int) < (m : Int)) = False := eq_false (by omega);clear c1 c3;subst hq;go_wp2_with fail;go_ret2;exact ⟨by first | rfl | (congr 4 <;> omega), rfl⟩
theorem bitsDiv_any (hi lo y : Nat) (hh : hi < y) (hlo : lo < 18446744073709551616) (h1 : 9223372036854775808 ≤ y) (h2 : y < 18446744073709551616) (w : World) :
 Calls Tryz.prog 271 #[.int .u64 (hi : Int), .int .u64 (lo : Int), .int .u64 (y : Int)] w
  fun e w' => e = .returned (.tuple #[.int .u64 (((hi * 18446744073709551616 + lo) / y : Nat) : Int), .int .u64 (((hi * 18446744073709551616 + lo) % y : Nat) : Int)]) ∧ Fr NoB w w' := by
 by_cases h0 : hi = 0;· subst h0;rw [Nat.zero_mul, Nat.zero_add];exact bitsDiv_zero lo y hlo (by omega) h2 w
 · have H := hid (bitsDiv64_norm hi lo y (lo / 4294967296) (lo % 4294967296) (y / 4294967296) (y % 4294967296) (by omega) (by omega) (by omega) (by omega) (Nat.mod_lt _ (by omega)) (by omega) (Nat.mod_lt _ (by omega)) hh h0);generalize (hi * 18446744073709551616 + lo) / y = Q at *
   generalize (hi * 18446744073709551616 + lo) % y = R at *
   go_enter Tryz.func271, Tryz.ntmps271;go_wp2_with (go_at_call 299; refine (H.out _).mono ?_; rintro e w1 ⟨rfl, rfl⟩);go_ret2;exact ⟨rfl, Fr.refl _ _⟩
theorem norm_word {y : Nat} (h0 : 0 < y) (h2 : y < 18446744073709551616) : ∃ s d, 64 - blen y = s ∧ y * 2 ^ s = d ∧ 9223372036854775808 ≤ d ∧ d < 18446744073709551616 ∧ s ≤ 63 := by
 obtain ⟨b1, b2, b3⟩ := blen_bounds (n := y) (by omega);have hle := blen_le64 h2;refine ⟨_, _, rfl, rfl, ?_, ?_, by omega⟩;· have : 2 ^ (blen y - 1) * 2 ^ (64 - blen y) ≤ y * 2 ^ (64 - blen y) := Nat.mul_le_mul_right _ b1;rw [← Nat.pow_add, show blen y - 1 + (64 - blen y) = 63 by omega] at this;exact this
 · have : y * 2 ^ (64 - blen y) < 2 ^ blen y * 2 ^ (64 - blen y) := (Nat.mul_lt_mul_right (Nat.pow_pos (by omega))).2 b2;rw [← Nat.pow_add, show blen y + (64 - blen y) = 64 by omega] at this;exact this
theorem recN_div {d : Nat} (h1 : 9223372036854775808 ≤ d) (h2 : d < 18446744073709551616) : ((18446744073709551615 - d) * 18446744073709551616 + 18446744073709551615) / d = recN d := by
 unfold recN;have e : 340282366920938463463374607431768211455 = ((18446744073709551615 - d) * 18446744073709551616 + 18446744073709551615) + d * 18446744073709551616 := by omega
 rw [e, Nat.add_mul_div_left _ _ (by omega), Nat.add_sub_cancel]
theorem xor_all (d : Nat) (h : d < 18446744073709551616) : bits .xor .u64 IntKind.u64.max (d : Int) = ((18446744073709551615 - d : Nat) : Int) := by
 have h1 := bits_xor_u64_nat 18446744073709551615 d (by omega) h;have h2 := Lib.xor_ones64 d (by omega);rw [show (2 : Nat) ^ 64 - 1 = 18446744073709551615 from rfl] at h2;rw [h2] at h1;exact h1
set_option maxRecDepth 100000 in
set_option maxHeartbeats 1000000 in
theorem recip_any (y s d : Nat) (h0 : 0 < y) (h2 : y < 18446744073709551616) (hs : 64 - blen y = s) (hd : y * 2 ^ s = d) (hd1 : 9223372036854775808 ≤ d) (hd2 : d < 18446744073709551616) (hs2 : s ≤ 63) : RecOk y (recN d) := by
 have hmin : min s 64 = s := Nat.min_eq_left (by omega);unfold RecOk;intro w;have HZ := nlz_any y h2 w;rw [hs] at HZ;have HB := bitsDiv_any (18446744073709551615 - d) 18446744073709551615 d (by omega) (by omega) hd1 hd2 w;rw [recN_div hd1 hd2] at HB;have x1 := xor_all d hd2;have x2 : IntKind.u64.wrap ((y : Int) * 2 ^ s) = (d : Int) := by
  rw [show ((y : Int) * 2 ^ s) = ((y * 2 ^ s : Nat) : Int) by simp, hd, u64_wrap];omega
 obtain ⟨r, hr⟩ : ∃ r, ((18446744073709551615 - d) * 18446744073709551616 + 18446744073709551615) % d = r := ⟨_, rfl⟩
 obtain ⟨c, hc⟩ : ∃ c, 18446744073709551615 - d = c := ⟨_, rfl⟩
 obtain ⟨rc, hrc⟩ : ∃ rc, recN d = rc := ⟨_, rfl⟩
 rw [hr, hrc, show ((18446744073709551615 : Nat) : Int) = 18446744073709551615 from rfl] at HB;rw [hc] at HB x1;rw [hrc];have HZ := hid HZ; have HB := hid HB;clear hs hd hr hc hrc;go_enter Tryz.func272, Tryz.ntmps272;go_wp2_with (go_at_call 243; refine HZ.out.mono ?_; rintro e w1 ⟨rfl, rfl⟩);refine HB.out.mono ?_;rintro e w1 ⟨rfl, hF⟩;go_wp2_with fail;go_ret;exact ⟨rfl, hF⟩
set_option maxRecDepth 100000 in
set_option maxHeartbeats 1000000 in
theorem divWW_steps (X1 X0 y s x1 x0 d : Nat) (hs : 64 - blen y = s) (hs1 : 1 ≤ s) (hs2 : s ≤ 63) (hy2 : y < 18446744073709551616) (hX0 : X0 < 18446744073709551616) (hX1 : X1 < 18446744073709551616)
 (f1 : IntKind.u64.wrap ((X1 : Int) * 2 ^ s) = ((X1 * 2 ^ s : Nat) : Int)) (f3 : bits .or .u64 ((X1 * 2 ^ s : Nat) : Int) ((X0 : Int) / 2 ^ (64 - s)) = (x1 : Int)) (f4 : IntKind.u64.wrap ((X0 : Int) * 2 ^ s) = (x0 : Int)) (f5 : IntKind.u64.wrap ((y : Int) * 2 ^ s) = (d : Int))
 (hd1 : 9223372036854775808 ≤ d) (hd2 : d < 18446744073709551616) (h1 : x1 < d) (h0 : x0 < 18446744073709551616) (w : World) :
 Calls Tryz.prog 273 #[.int .u64 (X1 : Int), .int .u64 (X0 : Int), .int .u64 (y : Int), .int .u64 (recN d : Int)] w
  fun e w' => e = .returned (.tuple #[.int .u64 (((x1 * 18446744073709551616 + x0) / d : Nat) : Int), .int .u64 (((x1 * 18446744073709551616 + x0) % d / 2 ^ s : Nat) : Int)]) ∧ w = w' := by
 have HZ := nlz_any y hy2 w;rw [hs] at HZ;have HZ := hid HZ;have s0 : ((s : Int) == 0) = false := beq_eq_false_iff_ne.2 (by omega);have f6 : IntKind.u64.wrap (64 - (s : Int)) = ((64 - s : Nat) : Int) := by rw [u64_wrap]; omega
 obtain ⟨p, hp⟩ : ∃ p, X1 * 2 ^ s = p := ⟨_, rfl⟩
 rw [hp] at f1 f3;clear hp hs hX1;obtain ⟨t1, t0, c, q, dq1, dq0, b, r0, r1, e1, e2, e3, e4, hS⟩ := divSteps d x1 x0 hd1 hd2 h1 h0;obtain ⟨hend, hq, hr⟩ := divSteps_end hd1 hd2 h1 h0 hS;obtain ⟨m1, m2, m3⟩ := recN_spec hd1 hd2;have M1 := Tryz.bits_Mul (recN d) x1 m3 (by omega) w;rw [e1, e2] at M1;have A1 := bitsAdd t0 x0 0 (by omega) w;rw [hS.hc] at A1;have A2 := bitsAdd t1 x1 c hS.c1 w;rw [hS.hq] at A2;have M2 := Tryz.bits_Mul d q hd2 hS.ql w;rw [e3, e4] at M2;have S1 := bitsSub x0 dq0 0 (by omega) w;rw [hS.h0, hS.hb] at S1;have S2 := bitsSub x1 dq1 b hS.b1 w;rw [hS.h1] at S2;have hc1 := hS.c1; have hb1 := hS.b1; have hql := hS.ql; have hr0 := hS.r0l;have M1 := hid M1; have A1 := hid A1; have A2 := hid A2; have M2 := hid M2; have S1 := hid S1; have S2 := hid S2;generalize (x1 * 18446744073709551616 + x0) / d = Q at *
 generalize (x1 * 18446744073709551616 + x0) % d = R at *
 generalize (t0 + x0 + 0) % 18446744073709551616 = z1 at *
 generalize (t1 + x1 + c) / 18446744073709551616 = z2 at *
 generalize (if x1 < dq1 + b then 1 else 0 : Nat) = z3 at *
 generalize recN d = m at *
 clear hS e1 e2 e3 e4 m1 m2;have hend : ∃ v1 v2 : Nat, (r1 = 0 ∧ r0 < d ∧ q = Q ∧ r0 = R) ∨ (r1 = 0 ∧ d ≤ r0 ∧ q + 1 = Q ∧ r0 - d = R) ∨
  (r1 = 1 ∧ IntKind.u64.wrap ((r0 : Int) - (d : Int)) = (v1 : Int) ∧ v1 < d ∧ q + 1 = Q ∧ v1 = R) ∨ (r1 = 1 ∧ IntKind.u64.wrap ((r0 : Int) - (d : Int)) = (v1 : Int) ∧ d ≤ v1 ∧ v1 < 18446744073709551616 ∧ q + 2 = Q ∧ v1 - d = R) := by
  refine ⟨r0 + 18446744073709551616 - d, 0, ?_⟩;rw [u64_wrap];rcases hend with ⟨h1, g1, h2, h3⟩ | ⟨h1, g1, h2, h3⟩ | ⟨h1, g1, g2, h2, h3⟩ | ⟨h1, g1, g2, g3, h2, h3⟩
  · exact .inl ⟨h1, g1, h2.symm, h3.symm⟩
  · exact .inr (.inl ⟨h1, g1, h2.symm, h3.symm⟩)
  · exact .inr (.inr (.inl ⟨h1, by omega, g2, h2.symm, h3.symm⟩))
  · exact .inr (.inr (.inr ⟨h1, by omega, g2, g3, h2.symm, h3.symm⟩))
 obtain ⟨v1, v2, hend⟩ := hend;rcases hend with ⟨rfl, g1, rfl, rfl⟩ | ⟨rfl, g1, rfl, rfl⟩ | ⟨rfl, hw, g2, rfl, rfl⟩ | ⟨rfl, hw, g2, g3, rfl, rfl⟩
 all_goals
  go_enter Tryz.func273, Tryz.ntmps273;go_wp2_with fail;refine HZ.out.mono ?_;rintro e w1 ⟨rfl, rfl⟩;go_wp2_with fail;refine M1.out.mono ?_;rintro e w1 ⟨rfl, rfl⟩;go_wp2_with fail;refine A1.out.mono ?_;rintro e w1 ⟨rfl, rfl⟩;go_wp2_with fail;refine A2.out.mono ?_;rintro e w1 ⟨rfl, rfl⟩;go_wp2_with fail;refine M2.out.mono ?_;rintro e w1 ⟨rfl, rfl⟩;go_wp2_with fail;refine S1.out.mono ?_;rintro e w1 ⟨rfl, rfl⟩;go_wp2_with fail;refine S2.out.mono ?_;rintro e w1 ⟨rfl, rfl⟩;go_wp2_with fail;go_ret2;refine ⟨ret_two (k := .u64) (l := .u64) ?_ ?_, rfl⟩;· first | rfl | omega | (simp; done) | (simp; omega)
  · rw [Int.natCast_ediv, Int.natCast_pow];first | rfl | (congr 1; first | rfl | omega | (simp; done) | (simp; omega))
theorem shift_two {X1 X0 s : Nat} (hs1 : 1 ≤ s) (hs : s ≤ 63) (hX0 : X0 < 18446744073709551616) :
 (X1 * 2 ^ s + X0 / 2 ^ (64 - s)) * 18446744073709551616 + X0 * 2 ^ s % 18446744073709551616 = (X1 * 18446744073709551616 + X0) * 2 ^ s := by
 have hp : 2 ^ s * 2 ^ (64 - s) = 18446744073709551616 := by rw [← Nat.pow_add, show s + (64 - s) = 64 by omega]
 have h1 : X0 / 2 ^ (64 - s) = X0 * 2 ^ s / 18446744073709551616 := by
  rw [← hp, Nat.mul_comm (2 ^ s) (2 ^ (64 - s)), Nat.mul_div_mul_right _ _ (Nat.pow_pos (by omega))]
 rw [h1, Nat.add_mul, Nat.add_mul];have h2 := Nat.div_add_mod (X0 * 2 ^ s) 18446744073709551616;rw [Nat.mul_comm 18446744073709551616] at h2;rw [Nat.add_assoc, h2, Nat.mul_assoc, Nat.mul_assoc, Nat.mul_comm (2 ^ s)]
theorem or_shift (p q s : Nat) (hq : q < 2 ^ s) (hp : p * 2 ^ s < 18446744073709551616) (hs : s ≤ 64) : bits .or .u64 ((p * 2 ^ s : Nat) : Int) (q : Int) = ((p * 2 ^ s + q : Nat) : Int) := by
 have h64 : q < 18446744073709551616 := Nat.lt_of_lt_of_le hq (Nat.le_trans (Nat.pow_le_pow_right (by omega) hs) (by decide));rw [u64_or_nat (p * 2 ^ s) q hp h64, Nat.mul_comm p, Nat.two_pow_add_eq_or_of_lt hq]
theorem divOk_any (y s d : Nat) (h0 : 0 < y) (h2 : y < 18446744073709551616) (hs : 64 - blen y = s) (hd : y * 2 ^ s = d) (hd1 : 9223372036854775808 ≤ d) (hd2 : d < 18446744073709551616) (hs2 : s ≤ 63) : DivOk y (recN d) := by
 unfold DivOk;intro X1 X0 w hX1 hX0;by_cases hs0 : s = 0;· subst hs0;rw [Nat.pow_zero, Nat.mul_one] at hd;subst hd;exact divWW_norm X1 X0 y hd1 hd2 hX1 hX0 w
 · have hpos : 0 < 2 ^ s := Nat.pow_pos (by omega);have hlt : X0 / 2 ^ (64 - s) < 2 ^ s := by
    rw [Nat.div_lt_iff_lt_mul (Nat.pow_pos (by omega)), ← Nat.pow_add, show s + (64 - s) = 64 by omega];exact hX0
   have hmul : X1 * 2 ^ s + 2 ^ s ≤ d := by
    rw [← hd, ← Nat.succ_mul];exact Nat.mul_le_mul_right _ hX1
   have hst := shift_two (X1 := X1) (X0 := X0) (s := s) (by omega) hs2 hX0;have H := divWW_steps X1 X0 y s (X1 * 2 ^ s + X0 / 2 ^ (64 - s)) (X0 * 2 ^ s % 18446744073709551616) d hs (by omega) hs2 h2 hX0 (by omega) (by rw [u64_wrap, show ((X1 : Int) * 2 ^ s) = ((X1 * 2 ^ s : Nat) : Int) by simp]; omega)
    (by rw [show ((X0 : Int) / 2 ^ (64 - s)) = ((X0 / 2 ^ (64 - s) : Nat) : Int) by simp]; exact or_shift X1 _ s hlt (by omega) (by omega))
    (by rw [u64_wrap, show ((X0 : Int) * 2 ^ s) = ((X0 * 2 ^ s : Nat) : Int) by simp]; omega)
    (by rw [u64_wrap, show ((y : Int) * 2 ^ s) = ((y * 2 ^ s : Nat) : Int) by simp, hd]; omega)
    hd1 hd2 (by omega) (Nat.mod_lt _ (by omega)) w
   rw [hst, ← hd, Nat.mul_div_mul_right _ _ hpos, Nat.mul_mod_mul_right, Nat.mul_div_cancel _ hpos] at H;rw [← hd];exact H
theorem word_divides (y : Nat) (h0 : 0 < y) (h2 : y < 18446744073709551616) : ∃ rec, RecOk y rec ∧ DivOk y rec ∧ rec < 18446744073709551616 := by
 obtain ⟨s, d, hs, hd, hd1, hd2, hs2⟩ := norm_word h0 h2;exact ⟨recN d, recip_any y s d h0 h2 hs hd hd1 hd2 hs2, divOk_any y s d h0 h2 hs hd hd1 hd2 hs2, (recN_spec hd1 hd2).2.2⟩
end Go.Proofs.YteokhhepnoelhaaGreatDoor
