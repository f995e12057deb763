/-
  PLAIN: two numbers compared; how many decimal figures; how many bits.
-/
import Derived.Test.YteokhhepnoelhaaGreatDoorXae
import Derived.Test.YteokhhepnoelhaaGreatDoorXam
import Derived.Test.YteokhhepnoelhaaGreatDoorXah
import Derived.Test.YteokhhepnoelhaaGreatDoorXag
set_option linter.unusedVariables false
set_option linter.unusedSimpArgs false
namespace Go.Proofs.YteokhhepnoelhaaGreatDoor
open Go.RowKit Go.Proofs.YteokhhepnoelhaaGreatDoorW.PrintWords PFnParse PFnParseContext
theorem bval_split (xs : List Nat) (k x : Nat) (h : xs[k]? = some x) : bval xs = bval (xs.take k) + 65536 ^ k * (x + 65536 * bval (xs.drop (k + 1))) := by
 have hk := (List.getElem?_eq_some_iff.1 h).1;obtain ⟨y, gy, dy⟩ := drop_get (xs := xs) (i := k) hk;rw [h] at gy;cases gy;have e := bval_append (xs.take k) (xs.drop k);rw [List.take_append_drop, dy, bval, List.length_take, Nat.min_eq_left (Nat.le_of_lt hk)] at e;exact e
theorem bval_take_lt (xs : List Nat) (k : Nat) (h : Bd xs) : bval (xs.take k) < 65536 ^ k := by
 have h1 := bval_lt (xs.take k) (fun u hu => h u (List.mem_of_mem_take hu));have h2 : 65536 ^ (xs.take k).length ≤ 65536 ^ k := Nat.pow_le_pow_right (by omega) (by rw [List.length_take]; exact Nat.min_le_left _ _);exact Nat.lt_of_lt_of_le h1 h2
theorem bcmp_lt (xs ys : List Nat) (k x y : Nat) (hx : xs[k]? = some x) (hy : ys[k]? = some y) (hd : xs.drop (k + 1) = ys.drop (k + 1)) (hb : Bd xs) (h : x < y) : bval xs < bval ys := by
 rw [bval_split xs k x hx, bval_split ys k y hy, hd];have h1 := bval_take_lt xs k hb;have h2 : 65536 ^ k * (x + 65536 * bval (ys.drop (k + 1))) + 65536 ^ k ≤ 65536 ^ k * (y + 65536 * bval (ys.drop (k + 1))) := by
  rw [← Nat.mul_succ];exact Nat.mul_le_mul_left _ (by omega)
 generalize 65536 ^ k * (x + 65536 * bval (ys.drop (k + 1))) = p at *
 generalize 65536 ^ k * (y + 65536 * bval (ys.drop (k + 1))) = q at *
 omega
theorem digs_len_mono {a b : Nat} (h : a ≤ b) : (digs a).length ≤ (digs b).length := by
 have h1 := bval_lt (digs b) (digs_lt b);rw [bval_digs] at h1;exact digs_length_le _ _ (Nat.lt_of_le_of_lt h h1)
theorem Cmp_l0 (xs ys : List Nat) (hx : Bd xs) (hy : Bd ys) (hl : xs.length ≤ 10000) (hxy : xs.length = ys.length) : ∀ i : Nat, i ≤ xs.length → xs.drop i = ys.drop i →
 Evt (fun k => spec_Cmp.l0 k (zs xs) (zs ys) ((i : Int) - 1)) (cmpZ (bval xs) (bval ys)) := by
 intro i;induction i with
 | zero =>
  intro _ hd;rw [List.drop_zero, List.drop_zero] at hd;refine Evt.of fun k => ?_
  simp only [spec_Cmp.l0];rw [if_neg (by omega), hd];unfold cmpZ;rw [if_neg (Nat.lt_irrefl _), if_neg (Nat.lt_irrefl _)]
 | succ i ih =>
  intro hi hd;obtain ⟨x, gx, dx⟩ := drop_get (xs := xs) (i := i) (by omega);obtain ⟨y, gy, dy⟩ := drop_get (xs := ys) (i := i) (by omega);have rx := hid (rd_zs xs i x gx);have ry := hid (rd_zs ys i y gy);have hn := hid (show wrap64 ((i : Int) - 1) = (i : Int) - 1 from wrap_in _ (by omega) (by omega));by_cases h1 : x < y
  · have hlt := bcmp_lt xs ys i x y gx gy hd hx h1;refine Evt.of fun k => ?_
    simp only [spec_Cmp.l0];rw [show (((i + 1 : Nat) : Int)) - 1 = (i : Int) by omega, if_pos (by omega), if_pos (by omega), if_pos (by rw [zs_length]; omega), if_pos (by rw [zs_length]; omega), rx.out, ry.out, if_pos (by omega)];unfold cmpZ;rw [if_pos hlt]
  · by_cases h2 : y < x
    · have hlt := bcmp_lt ys xs i y x gy gx hd.symm hy h2;refine Evt.of fun k => ?_
      simp only [spec_Cmp.l0];rw [show (((i + 1 : Nat) : Int)) - 1 = (i : Int) by omega, if_pos (by omega), if_pos (by omega), if_pos (by rw [zs_length]; omega), if_pos (by rw [zs_length]; omega), rx.out, ry.out, if_neg (by omega), if_pos (by omega)];unfold cmpZ;rw [if_neg (by omega), if_pos hlt]
    · have e : x = y := by omega
      have hI := ih (by omega) (by rw [dx, dy, hd, e]);refine Evt.step hI fun k => ?_
      simp only [spec_Cmp.l0];rw [show (((i + 1 : Nat) : Int)) - 1 = (i : Int) by omega, if_pos (by omega), if_pos (by omega), if_pos (by rw [zs_length]; omega), if_pos (by rw [zs_length]; omega), rx.out, ry.out, if_neg (by omega), if_neg (by omega), hn.out]
theorem Cmp_ev (a b : Nat) (ha : (digs a).length ≤ 10000) (hb : (digs b).length ≤ 10000) : Evt (fun k => spec_Cmp.f k (zs (digs a)) (zs (digs b))) (cmpZ a b) := by
 by_cases h1 : (digs a).length < (digs b).length
 · have hlt : a < b := Nat.lt_of_not_le (fun h => by have := digs_len_mono h; omega);refine Evt.of fun k => ?_
   simp only [spec_Cmp.f];rw [if_pos (by rw [zs_length, zs_length]; omega)];unfold cmpZ;rw [if_pos hlt]
 · by_cases h2 : (digs b).length < (digs a).length
   · have hlt : b < a := Nat.lt_of_not_le (fun h => by have := digs_len_mono h; omega);refine Evt.of fun k => ?_
     simp only [spec_Cmp.f];rw [if_neg (by rw [zs_length, zs_length]; omega), if_pos (by rw [zs_length, zs_length]; omega)];unfold cmpZ;rw [if_neg (by omega), if_pos hlt]
   · have h := Cmp_l0 (digs a) (digs b) (digs_lt a) (digs_lt b) ha (by omega) (digs a).length (Nat.le_refl _) (by rw [List.drop_length, List.drop_of_length_le (by omega)]);rw [bval_digs, bval_digs] at h;refine Evt.same h fun k => ?_
     simp only [spec_Cmp.f];rw [if_neg (by rw [zs_length, zs_length]; omega), if_neg (by rw [zs_length, zs_length]; omega), zs_length, wrap_in _ (by omega) (by omega)]
theorem blen_half {t : Nat} (h : t ≠ 0) : blen t = blen (t / 2) + 1 := by
 obtain ⟨h1, h2, h3⟩ := blen_bounds h;by_cases h0 : t / 2 = 0
 · have e : t = 1 := by omega
   subst e;decide +kernel
 · obtain ⟨g1, g2, g3⟩ := blen_bounds h0;obtain ⟨m, hm⟩ : ∃ m, blen (t / 2) = m + 1 := ⟨blen (t / 2) - 1, by omega⟩
   rw [hm] at g1 g2 ⊢;rw [Nat.add_sub_cancel] at g1;refine blen_eq ?_ ?_;· rw [Nat.pow_succ]; omega
   · rw [Nat.pow_succ]; omega
theorem Len_l0 (t : Nat) : ∀ n : Nat, t < 65536 → n + blen t ≤ 1000000 → Evt (fun k => spec_Len.l0 k (n : Int) (t : Int)) (((n + blen t : Nat)) : Int) := by
 induction t using Nat.strongRecOn with
 | _ t ih =>
  intro n ht hn;by_cases h0 : t = 0
  · subst h0;refine Evt.of fun k => ?_
    simp only [spec_Len.l0];rw [if_neg (by omega), show blen 0 = 0 from rfl];rfl
  · have hh := blen_half h0;have hI := ih (t / 2) (by omega) (n + 1) (by omega) (by omega);rw [show n + 1 + blen (t / 2) = n + blen t by omega] at hI;refine Evt.step hI fun k => ?_
    simp only [spec_Len.l0];rw [if_pos (by omega), show Int.tdiv (t : Int) 2 = ((t / 2 : Nat) : Int) from tdiv_by t 2, wrap_nat _ (by omega), wrap_in _ (by omega) (by omega)];rfl
theorem digs_top {V m : Nat} (hm : (digs V).length = m + 1) : ∃ x, (digs V)[m]? = some x ∧ x ≠ 0 ∧ x < 65536 ∧ 65536 ^ m * x ≤ V ∧ V < 65536 ^ m * (x + 1) := by
 obtain ⟨x, gx, dx⟩ := drop_get (xs := digs V) (i := m) (by omega);have hs := bval_split (digs V) m x gx;have hd : (digs V).drop (m + 1) = [] := List.drop_of_length_le (by omega);have hlt := bval_take_lt (digs V) m (digs_lt V);rw [bval_digs, hd, show bval [] = 0 from rfl, Nat.mul_zero, Nat.add_zero] at hs;have hx0 : x ≠ 0 := by
  intro h;rw [h, Nat.mul_zero, Nat.add_zero] at hs;have := digs_length_le m V (by omega);omega
 refine ⟨x, gx, hx0, digs_lt V x (List.mem_of_getElem? gx), by omega, ?_⟩;rw [Nat.mul_add, Nat.mul_one];omega
theorem pow_16 (m : Nat) : (65536 : Nat) ^ m = 2 ^ (16 * m) := by rw [Nat.pow_mul]
theorem blen_digs {V m x : Nat} (hx : x ≠ 0) (h1 : 65536 ^ m * x ≤ V) (h2 : V < 65536 ^ m * (x + 1)) : blen V = 16 * m + blen x := by
 obtain ⟨b1, b2, b3⟩ := blen_bounds hx;obtain ⟨c, hc⟩ : ∃ c, blen x = c + 1 := ⟨blen x - 1, by omega⟩
 rw [hc] at b1 b2 ⊢;rw [Nat.add_sub_cancel] at b1;rw [← Nat.add_assoc];have hp : 0 < 65536 ^ m := Nat.pow_pos (by omega);refine blen_eq ?_ ?_;· rw [Nat.pow_add, ← pow_16];exact Nat.le_trans (Nat.mul_le_mul_left _ b1) h1
 · rw [Nat.add_assoc, Nat.pow_add, ← pow_16];exact Nat.lt_of_lt_of_le h2 (Nat.mul_le_mul_left _ b2)
theorem Len_ev (V : Nat) (hl : (digs V).length ≤ 10000) : Evt (fun k => spec_Len.f k (zs (digs V))) ((blen V : Nat) : Int) := by
 by_cases h0 : V = 0
 · subst h0;refine Evt.of fun k => ?_
   simp only [spec_Len.f];rw [digs_zero, if_pos (by simp [zs]), show blen 0 = 0 from rfl];rfl
 · obtain ⟨m, hm⟩ : ∃ m, (digs V).length = m + 1 := by
    refine ⟨(digs V).length - 1, ?_⟩;have : (digs V).length ≠ 0 := fun h => h0 (digs_nil.1 (List.length_eq_zero_iff.1 h))
    omega
   obtain ⟨x, gx, hx0, hxb, h1, h2⟩ := digs_top hm;have hb := blen_digs hx0 h1 h2;have hx16 : blen x ≤ 16 := by
    rcases Nat.lt_or_ge 16 (blen x) with h | h;· have g := (blen_bounds hx0).1;have := Nat.pow_le_pow_right (n := 2) (by omega) (show 16 ≤ blen x - 1 by omega);omega
    · exact h
   have hL := Len_l0 x (16 * m) hxb (by omega);rw [← hb] at hL;have rx := hid (rd_zs _ m x gx);refine Evt.same hL fun k => ?_
   simp only [spec_Len.f];rw [if_neg (by rw [zs_length]; omega), zs_length, hm, show wrap64 (((m + 1 : Nat) : Int) - 1) = (m : Int) by rw [wrap_in _ (by omega) (by omega)]; omega, if_pos (by omega), if_pos (by omega), rx.out, show wrap64 (16 * (m : Int)) = ((16 * m : Nat) : Int) by rw [wrap_in _ (by omega) (by omega)]; omega]
theorem Digits_l0 (V : Nat) : ∀ b : ByteArray, b.size + (if V = 0 then 0 else Lib.nDigits V) ≤ 100000 → (digs V).length ≤ 10000 → ∃ c : ByteArray, c.size = b.size + (if V = 0 then 0 else Lib.nDigits V) ∧ Evt (fun k => spec_Digits.l0 k (zs (digs V)) b) c := by
 induction V using Nat.strongRecOn with
 | _ V ih =>
  intro b hb hl;by_cases h0 : V = 0;· subst h0;refine ⟨b, by rw [if_pos rfl]; rfl, Evt.of fun k => ?_⟩;simp only [spec_Digits.l0];rw [digs_zero, if_neg (by simp [zs])]
  · have hd := byDigit_ev V 10 (by omega) (by omega) hl;have hl2 : (digs (V / 10)).length ≤ 10000 := Nat.le_trans (digs_len_mono (Nat.div_le_self V 10)) hl;have hs : (strOfNums ([(wrap64 (48 + ((V % 10 : Nat) : Int))) % 256] : List Int)).size = 1 := by rw [strOfNums_size]; rfl
    generalize hy : strOfNums ([(wrap64 (48 + ((V % 10 : Nat) : Int))) % 256] : List Int) = y at *
    have hsz : (y ++ b).size = b.size + 1 := by rw [ByteArray.size_append, hs]; omega
    have hnd : Lib.nDigits V = (if V / 10 = 0 then 0 else Lib.nDigits (V / 10)) + 1 := by
     by_cases h : V < 10;· rw [Lib.nDigits_small h, if_pos (by omega)]
     · rw [Lib.nDigits_big h, if_neg (by omega)]
    have hp := Lib.nDigits_pos V;rw [if_neg h0] at hb;obtain ⟨c, hc, hE⟩ := ih (V / 10) (by omega) (y ++ b) (by rw [hsz]; omega) hl2;refine ⟨c, by rw [hc, hsz, if_neg h0, hnd]; omega, ?_⟩;have hx1 : 0 < (zs (digs V)).length := by
     rw [zs_length];exact Nat.pos_of_ne_zero (fun h => h0 (digs_nil.1 (List.length_eq_zero_iff.1 h)))
    refine Evt.step (h := fun k => (spec_byDigit.f k (zs (digs V)) ((10 : Nat) : Int)).bind fun bt => if (strOfNums ([(wrap64 (48 + bt.2)) % 256] : List Int)).size + b.size ≤ 9223372036854775807 then spec_Digits.l0 k bt.1 (strOfNums ([(wrap64 (48 + bt.2)) % 256] : List Int) ++ b) else none) (Evt.bind hd (Evt.same hE fun k => ?_)) fun k => ?_
    · rw [hy, if_pos (by rw [hs]; omega)]
    · simp only [spec_Digits.l0];rw [if_pos (by omega)];rfl
theorem Figures_ev (V : Nat) (hl : (digs V).length ≤ 10000) (hn : Lib.nDigits V ≤ 10000) : Evt (fun k => spec_Figures.f k (zs (digs V))) ((Lib.nDigits V : Nat) : Int) := by
 by_cases h0 : V = 0
 · subst h0;rw [Lib.nDigits_small (by omega)];refine Evt.of fun k => ?_
   simp only [spec_Figures.f, spec_Digits.f];rw [digs_zero, if_pos (by simp [zs]), Option.bind_some];rfl
 · obtain ⟨c, hc, hE⟩ := Digits_l0 V (⟨#[]⟩ : ByteArray) (by rw [if_neg h0]; show 0 + Lib.nDigits V ≤ 100000; omega) hl;rw [if_neg h0] at hc;have hc2 : c.size = Lib.nDigits V := by rw [hc]; show 0 + _ = _; omega
   have hx1 : (zs (digs V)).length ≠ 0 := by
    rw [zs_length];exact fun h => h0 (digs_nil.1 (List.length_eq_zero_iff.1 h))
   have hE2 : Evt (fun k => (spec_Digits.l0 k (zs (digs V)) (⟨#[]⟩ : ByteArray)).bind fun t => some ((t.size : Nat) : Int)) ((c.size : Nat) : Int) := Evt.bind hE (Evt.const _);rw [hc2] at hE2;refine Evt.same hE2 fun k => ?_
   simp only [spec_Figures.f, spec_Digits.f];rw [if_neg (by omega)]
def sbD : List Nat → List Nat → Nat → List Nat
 | [], _, _ => []
 | x :: xs, [], c => (if x < c then x + 65536 - c else x - c) :: sbD xs [] (if x < c then 1 else 0)
 | x :: xs, y :: ys, c => (if x < y + c then x + 65536 - (y + c) else x - (y + c)) :: sbD xs ys (if x < y + c then 1 else 0)
def sbO : List Nat → List Nat → Nat → Nat
 | [], _, c => c
 | x :: xs, [], c => sbO xs [] (if x < c then 1 else 0)
 | x :: xs, y :: ys, c => sbO xs ys (if x < y + c then 1 else 0)
theorem sbD_length : ∀ (xs ys : List Nat) (c : Nat), (sbD xs ys c).length = xs.length
 | [], _, _ => rfl
 | x :: xs, [], c => by rw [sbD, List.length_cons, sbD_length xs [], List.length_cons]
 | x :: xs, y :: ys, c => by rw [sbD, List.length_cons, sbD_length xs ys, List.length_cons]
theorem sbD_val : ∀ (xs ys : List Nat) (c : Nat), Bd xs → Bd ys → c ≤ 1 → ys.length ≤ xs.length → bval (sbD xs ys c) + bval ys + c = bval xs + 65536 ^ xs.length * sbO xs ys c
 | [], [], c, _, _, _, _ => by simp [sbD, sbO, bval]
 | [], _ :: _, c, _, _, _, h => absurd h (by simp)
 | x :: xs, [], c, hx, hy, hc, _ => by
  have hxb := hx x (by simp);have ih := sbD_val xs [] (if x < c then 1 else 0) (fun u hu => hx u (by simp [hu])) hy (by split <;> omega) (by simp);rw [sbD, sbO, bval, bval, bval, List.length_cons, Nat.pow_succ, Nat.mul_comm (65536 ^ xs.length) 65536, Nat.mul_assoc];rw [show bval [] = 0 from rfl] at ih;generalize bval (sbD xs [] (if x < c then 1 else 0)) = p at *
  generalize 65536 ^ xs.length * sbO xs [] (if x < c then 1 else 0) = q at *
  split at ih <;> rename_i h
  · rw [if_pos h]; omega
  · rw [if_neg h]; omega
 | x :: xs, y :: ys, c, hx, hy, hc, hl => by
  have hxb := hx x (by simp);have hyb := hy y (by simp);have ih := sbD_val xs ys (if x < y + c then 1 else 0) (fun u hu => hx u (by simp [hu])) (fun u hu => hy u (by simp [hu])) (by split <;> omega) (by simpa using hl);rw [sbD, sbO, bval, bval, bval, List.length_cons, Nat.pow_succ, Nat.mul_comm (65536 ^ xs.length) 65536, Nat.mul_assoc];generalize bval (sbD xs ys (if x < y + c then 1 else 0)) = p at *
  generalize 65536 ^ xs.length * sbO xs ys (if x < y + c then 1 else 0) = q at *
  split at ih <;> rename_i h
  · rw [if_pos h]; omega
  · rw [if_neg h]; omega
theorem sbD_bd : ∀ (xs ys : List Nat) (c : Nat), Bd xs → Bd ys → c ≤ 1 → Bd (sbD xs ys c)
 | [], _, _, _, _, _ => by intro z hz; simp [sbD] at hz
 | x :: xs, [], c, hx, hy, hc => by
  have hxb := hx x (by simp);intro z hz;rw [sbD, List.mem_cons] at hz;rcases hz with rfl | hz;· split <;> omega
  · exact sbD_bd xs [] _ (fun u hu => hx u (by simp [hu])) hy (by split <;> omega) z hz
 | x :: xs, y :: ys, c, hx, hy, hc => by
  have hxb := hx x (by simp);have hyb := hy y (by simp);intro z hz;rw [sbD, List.mem_cons] at hz;rcases hz with rfl | hz;· split <;> omega
  · exact sbD_bd xs ys _ (fun u hu => hx u (by simp [hu])) (fun u hu => hy u (by simp [hu])) (by split <;> omega) z hz
theorem sub_digit (x t : Nat) (hx : x < 65536) (ht : t ≤ 65536) : (x < t → wrap64 (((x : Int) - (t : Int)) + 65536) = ((x + 65536 - t : Nat) : Int)) ∧ (¬ x < t → wrap64 ((x : Int) - (t : Int)) = ((x - t : Nat) : Int)) := by
 constructor;· intro h; rw [wrap_in _ (by omega) (by omega)]; omega
 · intro h; rw [wrap_in _ (by omega) (by omega)]; omega
theorem Sub_l0 (xs ys : List Nat) (hx : Bd xs) (hy : Bd ys) (hl : xs.length ≤ 10000) (hly : ys.length ≤ 10000) : ∀ (d i c : Nat) (o : List Nat), xs.length - i = d → i ≤ xs.length → c ≤ 1 → o.length = i →
 Evt (fun k => spec_Sub.l0 k (zs ys) (zs o) (c : Int) (zs xs) ((zs xs).length : Int) (i : Int)) (zs (normL (o ++ sbD (xs.drop i) (ys.drop i) c))) := by
 intro d;induction d with
 | zero =>
  intro i c o hd hi hc ho;have e1 : xs.drop i = [] := List.drop_of_length_le (by omega);rw [e1, sbD, List.append_nil];refine Evt.step (h := fun k => (spec_trim.f k (zs o)).bind fun t => some t) (Evt.bind (trim_ev _ (by omega)) (Evt.const _)) fun k => ?_
  simp only [spec_Sub.l0];rw [if_neg (by rw [zs_length]; omega)]
 | succ d ih =>
  intro i c o hd hi hc ho;obtain ⟨x, gx, dx⟩ := drop_get (xs := xs) (i := i) (by omega);have hxb := hx x (List.mem_of_getElem? gx);have rx := hid (rd_zs xs i x gx);have hi64 := hid (wrap_succ i (by omega));have hol : (zs o).length < 17592186044416 := by rw [zs_length]; omega
  have hw1 := hid (show wrap64 ((x : Int) - (c : Int)) = (x : Int) - (c : Int) from wrap_in _ (by omega) (by omega));by_cases hyi : i < ys.length
  · obtain ⟨y, gy, dy⟩ := drop_get hyi;have hyb := hy y (List.mem_of_getElem? gy);have ry := hid (rd_zs ys i y gy);have hw2 := hid (show wrap64 ((x : Int) - (c : Int) - (y : Int)) = (x : Int) - ((y + c : Nat) : Int) by rw [wrap_in _ (by omega) (by omega)]; omega);obtain ⟨s1, s2⟩ := sub_digit x (y + c) hxb (by omega);rw [dx, dy, sbD];by_cases hlt : x < y + c
    · have hI := ih (i + 1) 1 (o ++ [x + 65536 - (y + c)]) (by omega) (by omega) (by omega) (by simp; omega);rw [List.append_assoc, List.singleton_append] at hI;rw [if_pos hlt, if_pos hlt];refine Evt.step hI fun k => ?_
      simp only [spec_Sub.l0];rw [if_pos (by rw [zs_length]; omega), if_pos (by omega), if_pos (by rw [zs_length]; omega), if_pos (by rw [zs_length]; omega), rx.out, ry.out, hw1.out, hw2.out, if_pos (by omega), if_pos hol, s1 hlt, hi64.out, zs_one, ← zs_append];rfl
    · have hI := ih (i + 1) 0 (o ++ [x - (y + c)]) (by omega) (by omega) (by omega) (by simp; omega);rw [List.append_assoc, List.singleton_append] at hI;rw [if_neg hlt, if_neg hlt];have hw3 := hid (show (x : Int) - ((y + c : Nat) : Int) = ((x - (y + c) : Nat) : Int) by omega);refine Evt.step hI fun k => ?_
      simp only [spec_Sub.l0];rw [if_pos (by rw [zs_length]; omega), if_pos (by omega), if_pos (by rw [zs_length]; omega), if_pos (by rw [zs_length]; omega), rx.out, ry.out, hw1.out, hw2.out, if_neg (by omega), if_pos hol, hw3.out, hi64.out, zs_one, ← zs_append];rfl
  · have e2 : ys.drop i = [] := List.drop_of_length_le (by omega);have e3 : ys.drop (i + 1) = [] := List.drop_of_length_le (by omega);obtain ⟨s1, s2⟩ := sub_digit x c hxb (by omega);rw [dx, e2, sbD];by_cases hlt : x < c
    · have hI := ih (i + 1) 1 (o ++ [x + 65536 - c]) (by omega) (by omega) (by omega) (by simp; omega);rw [List.append_assoc, List.singleton_append, e3] at hI;rw [if_pos hlt, if_pos hlt];refine Evt.step hI fun k => ?_
      simp only [spec_Sub.l0];rw [if_pos (by rw [zs_length]; omega), if_pos (by omega), if_pos (by rw [zs_length]; omega), if_neg (by rw [zs_length]; omega), rx.out, hw1.out, if_pos (by omega), if_pos hol, s1 hlt, hi64.out, zs_one, ← zs_append];rfl
    · have hI := ih (i + 1) 0 (o ++ [x - c]) (by omega) (by omega) (by omega) (by simp; omega);rw [List.append_assoc, List.singleton_append, e3] at hI;rw [if_neg hlt, if_neg hlt];have hw3 := hid (show (x : Int) - (c : Int) = ((x - c : Nat) : Int) by omega);refine Evt.step hI fun k => ?_
      simp only [spec_Sub.l0];rw [if_pos (by rw [zs_length]; omega), if_pos (by omega), if_pos (by rw [zs_length]; omega), if_neg (by rw [zs_length]; omega), rx.out, hw1.out, if_neg (by omega), if_pos hol, hw3.out, hi64.out, zs_one, ← zs_append];rfl
theorem Sub_ev (a b : Nat) (h : b ≤ a) (ha : (digs a).length ≤ 10000) : Evt (fun k => spec_Sub.f k (zs (digs a)) (zs (digs b))) (zs (digs (a - b))) := by
 have hbl := digs_len_mono h;have hE := Sub_l0 (digs a) (digs b) (digs_lt a) (digs_lt b) ha (by omega) _ 0 0 [] rfl (by omega) (by omega) rfl;rw [List.drop_zero, List.drop_zero, List.nil_append, normL_digs _ (sbD_bd _ _ _ (digs_lt a) (digs_lt b) (by omega))] at hE;have hv := sbD_val (digs a) (digs b) 0 (digs_lt a) (digs_lt b) (by omega) hbl;rw [bval_digs, bval_digs, Nat.add_zero] at hv;have hlt := bval_lt (sbD (digs a) (digs b) 0) (sbD_bd _ _ _ (digs_lt a) (digs_lt b) (by omega));rw [sbD_length] at hlt;have h0 : sbO (digs a) (digs b) 0 = 0 := by
  refine Nat.eq_zero_of_not_pos (fun hp => ?_);have : 65536 ^ (digs a).length * 1 ≤ 65536 ^ (digs a).length * sbO (digs a) (digs b) 0 := Nat.mul_le_mul_left _ hp;omega
 rw [h0, Nat.mul_zero, Nat.add_zero] at hv;rw [show bval (sbD (digs a) (digs b) 0) = a - b by omega] at hE;exact hE
def shD : List Nat → Nat → Nat → List Nat
 | [], _, c => [c]
 | x :: xs, s, c => (c + x * 2 ^ s % 65536) :: shD xs s (x * 2 ^ s / 65536)
theorem shD_val : ∀ (xs : List Nat) (s c : Nat), bval (shD xs s c) = bval xs * 2 ^ s + c
 | [], s, c => by simp [shD, bval]
 | x :: xs, s, c => by
  have ih := shD_val xs s (x * 2 ^ s / 65536);rw [shD, bval, bval, ih, Nat.add_mul, Nat.mul_assoc 65536];generalize x * 2 ^ s = p at *
  generalize bval xs * 2 ^ s = q at *
  omega
theorem sh_step {x s c : Nat} (hx : x < 65536) (hs : s < 16) (hc : c < 2 ^ s) : x * 2 ^ s / 65536 < 2 ^ s ∧ c + x * 2 ^ s % 65536 < 65536 ∧ x * 2 ^ s < 4294967296 := by
 have hp : 0 < 2 ^ s := Nat.pow_pos (by omega);have h16 : (65536 : Nat) = 2 ^ (16 - s) * 2 ^ s := by rw [← Nat.pow_add, show 16 - s + s = 16 by omega]
 have h15 : 2 ^ s ≤ 2 ^ 15 := Nat.pow_le_pow_right (by omega) (by omega);have hm : x * 2 ^ s % 65536 = x % 2 ^ (16 - s) * 2 ^ s := by rw [h16, Nat.mul_mod_mul_right]
 have hlt : x % 2 ^ (16 - s) < 2 ^ (16 - s) := Nat.mod_lt _ (Nat.pow_pos (by omega));have hle : (x % 2 ^ (16 - s) + 1) * 2 ^ s ≤ 2 ^ (16 - s) * 2 ^ s := Nat.mul_le_mul_right _ hlt;rw [← h16, Nat.add_mul, Nat.one_mul, ← hm] at hle;have hxm : x * 2 ^ s < 65536 * 2 ^ s := Nat.mul_lt_mul_of_pos_right hx hp;refine ⟨?_, by omega, ?_⟩;· rw [Nat.div_lt_iff_lt_mul (by omega), Nat.mul_comm (2 ^ s) 65536]; exact hxm
 · have : 65536 * 2 ^ s ≤ 65536 * 2 ^ 15 := Nat.mul_le_mul_left _ h15;omega
theorem shD_bd : ∀ (xs : List Nat) (s c : Nat), Bd xs → s < 16 → c < 2 ^ s → Bd (shD xs s c)
 | [], s, c, _, hs, hc => by
  have : 2 ^ s ≤ 2 ^ 15 := Nat.pow_le_pow_right (by omega) (by omega);intro z hz; simp [shD] at hz; omega
 | x :: xs, s, c, hx, hs, hc => by
  have h := sh_step (hx x (by simp)) hs hc;intro z hz;rw [shD, List.mem_cons] at hz;rcases hz with rfl | hz;· exact h.2.1
  · exact shD_bd xs s _ (fun u hu => hx u (by simp [hu])) hs h.1 z hz
theorem shl_is (x s : Nat) (h : x * 2 ^ s < 4294967296) (hs : s < 16) : shl .i64 (x : Int) (s : Int) = ((x * 2 ^ s : Nat) : Int) := by
 unfold shl;rw [show IntKind.i64.bits = 64 from rfl, show ((s : Int)).toNat = s by omega, Nat.min_eq_left (by omega)];have e : (x : Int) * 2 ^ s = ((x * 2 ^ s : Nat) : Int) := by simp
 rw [e];exact IntWalk.i64_in _ (by omega)
theorem set_two (q i d c lo hi : Nat) (o : List Nat) (ho : o.length = i) : ((List.replicate q 0 ++ (o ++ c :: List.replicate (d + 1) 0)).set (q + i) lo).set (q + i + 1) hi = List.replicate q 0 ++ (o ++ lo :: hi :: List.replicate d 0) := by
 have e1 : (o ++ c :: List.replicate (d + 1) 0).set i lo = o ++ lo :: List.replicate (d + 1) 0 := by rw [List.set_append_right _ _ (by omega), ho, Nat.sub_self]; rfl
 have e2 : (o ++ lo :: List.replicate (d + 1) 0).set (i + 1) hi = o ++ lo :: hi :: List.replicate d 0 := by rw [List.set_append_right _ _ (by omega), ho, show i + 1 - i = 1 by omega, List.replicate_succ]; rfl
 have e3 : ∀ (ys : List Nat) (j v : Nat), (List.replicate q 0 ++ ys).set (q + j) v = List.replicate q 0 ++ ys.set j v := by
  intro ys j v;rw [List.set_append_right _ _ (by simp), List.length_replicate, Nat.add_sub_cancel_left]
 rw [e3, e1, Nat.add_assoc, e3, e2]
theorem Shl_l0 (xs : List Nat) (n q s : Nat) (hx : Bd xs) (hl : xs.length ≤ 10000) (hq : n / 16 = q) (hs : n % 16 = s) (hq2 : q ≤ 1000) : ∀ (d i c : Nat) (o : List Nat), xs.length - i = d → i ≤ xs.length → c < 2 ^ s → o.length = i →
 Evt (fun k => spec_Shl.l0 k (n : Int) (zs (List.replicate q 0 ++ (o ++ c :: List.replicate d 0))) (zs xs) ((zs xs).length : Int) (i : Int)) (zs (normL (List.replicate q 0 ++ (o ++ shD (xs.drop i) s c)))) := by
 intro d;induction d with
 | zero =>
  intro i c o hd hi hc ho;have e1 : xs.drop i = [] := List.drop_of_length_le (by omega);rw [e1, shD, List.replicate_zero];refine Evt.step (h := fun k => (spec_trim.f k (zs (List.replicate q 0 ++ (o ++ [c])))).bind fun t => some t) (Evt.bind (trim_ev _ (by simp; omega)) (Evt.const _)) fun k => ?_
  simp only [spec_Shl.l0];rw [if_neg (by rw [zs_length]; omega)]
 | succ d ih =>
  intro i c o hd hi hc ho;have hs16 : s < 16 := by omega
  obtain ⟨x, gx, dx⟩ := drop_get (xs := xs) (i := i) (by omega);have hxb := hx x (List.mem_of_getElem? gx);obtain ⟨h1, h2, h3⟩ := sh_step hxb hs16 hc;have rx := hid (rd_zs xs i x gx);have hi64 := hid (wrap_succ i (by omega));have hI := ih (i + 1) (x * 2 ^ s / 65536) (o ++ [c + x * 2 ^ s % 65536]) (by omega) (by omega) h1 (by simp; omega);simp only [List.append_assoc, List.singleton_append] at hI;rw [dx, shD];have hsh := hid (shl_is x s h3 hs16);have hlen : ((zs (List.replicate q 0 ++ (o ++ c :: List.replicate (d + 1) 0))).length : Int) = (q : Int) + i + 1 + ((d : Int) + 1) := by rw [zs_length]; simp; omega
  have rc := hid (show rd (zs (List.replicate q 0 ++ (o ++ c :: List.replicate (d + 1) 0))) ((q + i : Nat) : Int) = (c : Int) from rd_zs _ _ _ (by
   rw [List.getElem?_append_right (by simp), List.length_replicate, Nat.add_sub_cancel_left, List.getElem?_append_right (by omega), ho, Nat.sub_self]; rfl))
  have w1 := hid (show wrap64 (wrap64 (Int.tdiv (n : Int) 16) + (i : Int)) = ((q + i : Nat) : Int) by
   rw [show Int.tdiv (n : Int) 16 = ((n / 16 : Nat) : Int) from tdiv_by n 16, hq, wrap_nat _ (by omega), wrap_in _ (by omega) (by omega)]; omega)
  have w2 := hid (show wrap64 (((q + i : Nat) : Int) + 1) = ((q + i + 1 : Nat) : Int) by rw [wrap_in _ (by omega) (by omega)]; omega);have w3 := hid (show Int.tmod (n : Int) 16 = (s : Int) by rw [show Int.tmod (n : Int) 16 = ((n % 16 : Nat) : Int) from tmod_by n 16, hs]);have w4 := hid (show wrap64 ((c : Int) + ((x * 2 ^ s % 65536 : Nat) : Int)) = ((c + x * 2 ^ s % 65536 : Nat) : Int) by rw [wrap_in _ (by omega) (by omega)]; omega);have w5 := hid (wrap_nat (x * 2 ^ s / 65536) (by omega));have w6 := hid (show Int.tmod ((x * 2 ^ s : Nat) : Int) 65536 = ((x * 2 ^ s % 65536 : Nat) : Int) from tmod_nat _);have w7 := hid (show Int.tdiv ((x * 2 ^ s : Nat) : Int) 65536 = ((x * 2 ^ s / 65536 : Nat) : Int) from tdiv_nat _);generalize hlo : c + x * 2 ^ s % 65536 = lo at *
  generalize hhi : x * 2 ^ s / 65536 = hi' at *
  refine Evt.step hI fun k => ?_
  simp only [spec_Shl.l0];rw [if_pos (by rw [zs_length]; omega), if_pos (by omega), if_pos (by rw [zs_length]; omega), w3.out, if_pos (by omega), w1.out, if_pos (by omega), hlen, if_pos (by omega), w2.out, if_pos (by omega), if_pos (by omega), rx.out, hsh.out, rc.out, w6.out, w7.out, w4.out, w5.out, hi64.out, zs_set, zs_set];congr 2
  rw [show (((q + i : Nat) : Int)).toNat = q + i by omega, show (((q + i + 1 : Nat) : Int)).toNat = q + i + 1 by omega];exact set_two q i d c lo hi' o ho
theorem bval_replicate (q : Nat) (xs : List Nat) : bval (List.replicate q 0 ++ xs) = 65536 ^ q * bval xs := by
 rw [bval_append, List.length_replicate];have : bval (List.replicate q 0) = 0 := by
  induction q with
  | zero => rfl
  | succ q ih => rw [List.replicate_succ, bval, ih]
 rw [this, Nat.zero_add]
theorem Shl_ev (V n : Nat) (hl : (digs V).length ≤ 9000) (hn : n ≤ 1000) : Evt (fun k => spec_Shl.f k (zs (digs V)) (n : Int)) (zs (digs (V * 2 ^ n))) := by
 by_cases h0 : V = 0
 · subst h0;rw [Nat.zero_mul];refine Evt.of fun k => ?_
   simp only [spec_Shl.f];rw [if_pos (by rw [digs_zero]; simp [zs])]
 · have hx1 : (zs (digs V)).length ≠ 0 := by
    rw [zs_length];exact fun h => h0 (digs_nil.1 (List.length_eq_zero_iff.1 h))
   have hp : 0 < 2 ^ (n % 16) := Nat.pow_pos (by omega);have hE := Shl_l0 (digs V) n (n / 16) (n % 16) (digs_lt V) (by omega) rfl rfl (by omega) (digs V).length 0 0 [] (by omega) (by omega) hp rfl;rw [List.drop_zero, List.nil_append, List.nil_append] at hE;have hbd : Bd (List.replicate (n / 16) 0 ++ shD (digs V) (n % 16) 0) := by
    intro z hz;rcases List.mem_append.1 hz with hz | hz;· have := List.eq_of_mem_replicate hz; omega
    · exact shD_bd _ _ _ (digs_lt V) (Nat.mod_lt _ (by omega)) hp z hz
   have hval : bval (List.replicate (n / 16) 0 ++ shD (digs V) (n % 16) 0) = V * 2 ^ n := by
    rw [bval_replicate, shD_val, bval_digs, Nat.add_zero, pow_16, Nat.mul_left_comm, ← Nat.pow_add, Nat.div_add_mod]
   rw [normL_digs _ hbd, hval] at hE;have w1 : wrap64 (wrap64 (wrap64 (Int.tdiv (n : Int) 16) + ((zs (digs V)).length : Int)) + 1) = ((n / 16 + (digs V).length + 1 : Nat) : Int) := by
    rw [zs_length, show Int.tdiv (n : Int) 16 = ((n / 16 : Nat) : Int) from tdiv_by n 16, wrap_nat _ (by omega), wrap_in (((n / 16 : Nat) : Int) + ((digs V).length : Int)) (by omega) (by omega), wrap_in _ (by omega) (by omega)]; omega
   have e : List.replicate (n / 16 + (digs V).length + 1) 0 = List.replicate (n / 16) 0 ++ (0 :: List.replicate (digs V).length 0) := by
    rw [← List.replicate_succ, List.replicate_append_replicate, Nat.add_assoc]
   refine Evt.same hE fun k => ?_
   simp only [spec_Shl.f];rw [if_neg (by omega), w1, if_pos (by omega), if_pos (by omega), show (((n / 16 + (digs V).length + 1 : Nat) : Int)).toNat = n / 16 + (digs V).length + 1 by omega, zs_replicate, e];rfl
end Go.Proofs.YteokhhepnoelhaaGreatDoor
namespace Go.Proofs.YteokhhepnoelhaaGreatDoor
open Go.RowKit
theorem eql102_other {a b : Addr} {ca cb : Array Value} {ta tb : TypeId} (w : World) (hne : a ≠ b) (ha : w.heap[a.block]? = some (.cells ca ta (0, 0))) (hb : w.heap[b.block]? = some (.cells cb tb (0, 0))) :
 (binOp .eql 102 (.pointer (some a)) (.pointer (some b))).run Tryz.prog w = .ok (.bool false) w := by
 obtain ⟨j, hj, hz⟩ := info68;exact run_eql_ptr_apart w Tryz.underlying102 hj hz hne ha hb
set_option maxRecDepth 100000 in
set_option maxHeartbeats 2000000 in
theorem intCmp (D o E p A B : Nat) (ca cb : Array Value) (ta tb : TypeId) (v u : Value) (w : World) (hDE : D ≠ E) (hD : BlkAt w D ca ta) (hE : BlkAt w E cb tb) (a0 : ca[o]? = some (.bool false)) (a1 : ca[o + 1]? = some v) (b0 : cb[p]? = some (.bool false)) (b1 : cb[p + 1]? = some u)
 (hv : NatAt w v (limbs A)) (hu : NatAt w u (limbs B)) :
 Calls Tryz.prog 172 #[.pointer (some ⟨D, o, none⟩), .pointer (some ⟨E, p, none⟩)] w fun e w' => e = .returned (.int .i64 (cmpZ A B)) ∧ Fr NoB w w' := by
 have hq := fun w (h : BlkAt w D ca ta) (h' : BlkAt w E cb tb) => eql102_other (a := ⟨D, o, none⟩) (b := ⟨E, p, none⟩) w (fun e => hDE (congrArg Addr.block e)) h h'
 have hq0 := hq w hD hE;have k0 : w.cell? ⟨D, o, none⟩ = some (.bool false) := by rw [blk_cell hD]; exact a0
 have k1 : w.cell? ⟨D, o + 1, none⟩ = some v := by rw [blk_cell hD]; exact a1
 have m0 : w.cell? ⟨E, p, none⟩ = some (.bool false) := by rw [blk_cell hE]; exact b0
 have m1 : w.cell? ⟨E, p + 1, none⟩ = some u := by rw [blk_cell hE]; exact b1
 have HC := hid (fun (wx : World) (h : Fr NoB w wx) => natCmp v u A B wx (hv.fr h (fun _ _ h => h)) (hu.fr h (fun _ _ h => h)));have HD := hid hD;obtain ⟨Av, cv, rfl⟩ := hv.shape;obtain ⟨Au, cu, rfl⟩ := hu.shape;clear hq hD hE hv hu a0 a1 b0 b1 hDE;go_enter Tryz.func172, Tryz.ntmps172;go_wp2_with fail;go_quiet (fail);go_wp2_with fail;have HN := hid (HC.out (w.drewN nq).drew ((Fr.refl NoB w).drewN nq).drew);have HFd := hid ((Fr.refl NoB w).drewN nq).drew;have HK := hid k0;clear HC HD hq0;go_region_with (first | (go_at_call 176; refine HN.out.mono ?_; rintro e w3 ⟨rfl, hF3⟩; have HF3 := hid (HFd.out.trans hF3 (fun _ _ h => h)); have c0 := HF3.out.cell' HK.out (fun h => h); clear hF3));all_goals
  go_wp2_with fail;go_ret;exact ⟨rfl, HF3.out⟩
set_option maxRecDepth 100000 in
set_option maxHeartbeats 2000000 in
theorem bigCmp (D o E p A B : Nat) (ca cb : Array Value) (ta tb : TypeId) (v u : Value) (w : World) (hDE : D ≠ E) (hD : BlkAt w D ca ta) (hE : BlkAt w E cb tb) (a0 : ca[o]? = some (.bool false)) (a1 : ca[o + 1]? = some v) (a2 : ca[o + 2]? = some (.bool false))
 (b0 : cb[p]? = some (.bool false)) (b1 : cb[p + 1]? = some u) (b2 : cb[p + 2]? = some (.bool false)) (hv : NatAt w v (limbs A)) (hu : NatAt w u (limbs B)) :
 Calls Tryz.prog 142 #[.pointer (some ⟨D, o, none⟩), .pointer (some ⟨E, p, none⟩)] w fun e w' => e = .returned (.int .i64 (cmpZ A B)) ∧ Fr NoB w w' := by
 have k2 : w.cell? ⟨D, o + 2, none⟩ = some (.bool false) := by rw [blk_cell hD]; exact a2
 have m2 : w.cell? ⟨E, p + 2, none⟩ = some (.bool false) := by rw [blk_cell hE]; exact b2
 have HC := hid (fun (wx : World) (h : Fr NoB w wx) => intCmp D o E p A B ca cb ta tb v u wx hDE (h.blk hD (fun h => h)) (h.blk hE (fun h => h)) a0 a1 b0 b1 (hv.fr h (fun _ _ h => h)) (hu.fr h (fun _ _ h => h)));clear hD hE hv hu a0 a1 b0 b1 hDE a2 b2;go_enter Tryz.func142, Tryz.ntmps142;go_wp2_with fail;go_quiet (fail);go_wp2_with fail;have HN := hid (HC.out (w.drewN nq).drew ((Fr.refl NoB w).drewN nq).drew);have HFd := hid ((Fr.refl NoB w).drewN nq).drew;clear HC;go_region_with (first | (go_at_call 172; refine HN.out.mono ?_; rintro e w3 ⟨rfl, hF3⟩; have HF3 := hid (HFd.out.trans hF3 (fun _ _ h => h)); clear hF3));all_goals
  go_wp2_with fail;go_ret;exact ⟨rfl, HF3.out⟩
end Go.Proofs.YteokhhepnoelhaaGreatDoor
