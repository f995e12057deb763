/-
  PLAIN: a text that is a number by its shape (sign, figures with a point, exponent) is read by readLow with its figures and its exponent.
-/
import Derived.Test.YteokhhepnoelhaaGreatDoorPlainFails
set_option linter.unusedVariables false
set_option linter.unusedSimpArgs false
namespace Go.Proofs.YteokhhepnoelhaaGreatDoor
open Go.RowKit

def SgnOk (sg : List UInt8) (n : Bool) : Prop := (sg = [] ∧ n = false) ∨ (sg = [43] ∧ n = false) ∨ (sg = [45] ∧ n = true)
def DotOk (dot b : List UInt8) : Prop := dot = [46] ∨ (dot = [] ∧ b = [])
def ExOk (ex : List UInt8) (e : Int) : Prop :=
  (ex = [] ∧ e = 0) ∨ ∃ (c : UInt8) (sg : List UInt8) (n : Bool) (ds : List UInt8), ex = c :: (sg ++ ds) ∧ (c = 101 ∨ c = 69) ∧ SgnOk sg n ∧ Digs ds ∧ ds ≠ [] ∧ ds.length ≤ 4 ∧ e = if n = true then -(decVal ds : Int) else (decVal ds : Int)

theorem parseUintM_digs : ∀ (ds : List UInt8) (acc : Nat), Digs ds → (acc + 1) * 10 ^ ds.length ≤ 100000 →
    Lib.parseUintM 4294967295 acc ds = .ok (ds.foldl (fun n b => n * 10 + (b.toNat - 48)) acc)
  | [], acc, _, _ => rfl
  | c :: r, acc, hd, h => by
    have hc := hd c (by simp)
    have hp : 0 < 10 ^ r.length := Nat.pow_pos (by omega)
    rw [List.length_cons, Nat.pow_succ] at h
    have h1 : (acc * 10 + (c.toNat - 48) + 1) * 10 ^ r.length ≤ 100000 := by
      refine Nat.le_trans (Nat.mul_le_mul_right _ (show acc * 10 + (c.toNat - 48) + 1 ≤ (acc + 1) * 10 by omega)) ?_
      rw [Nat.mul_assoc, Nat.mul_comm 10]; exact h
    have h2 : acc * 10 + (c.toNat - 48) + 1 ≤ 100000 := Nat.le_trans (Nat.le_mul_of_pos_right _ hp) h1
    simp only [Lib.parseUintM]
    rw [if_pos hc, if_neg (by omega), if_neg (by omega)]
    exact parseUintM_digs r _ (fun b hb => hd b (by simp [hb])) h1

theorem decVal_small {ds : List UInt8} (hd : Digs ds) (hl : ds.length ≤ 4) : decVal ds < 10000 := by
  have h1 := decVal_lt ds hd
  have h2 : 10 ^ ds.length ≤ 10 ^ 4 := Nat.pow_le_pow_right (by omega) hl
  omega

theorem parseIntB_digs (sg ds : List UInt8) (n : Bool) (hs : SgnOk sg n) (hd : Digs ds) (hne : ds ≠ []) (hl : ds.length ≤ 4) :
    Lib.parseIntB 32 (sg ++ ds) = .ok (if n = true then -(decVal ds : Int) else (decVal ds : Int)) := by
  have h1 : (0 + 1) * 10 ^ ds.length ≤ 100000 := by
    have : 10 ^ ds.length ≤ 10 ^ 4 := Nat.pow_le_pow_right (by omega) hl
    omega
  have hu : Lib.parseUintB 32 ds = .ok (decVal ds) := by
    unfold Lib.parseUintB
    rw [if_neg hne]
    exact parseUintM_digs ds 0 hd h1
  have hv := decVal_small hd hl
  generalize decVal ds = v at *
  rcases hs with ⟨rfl, rfl⟩ | ⟨rfl, rfl⟩ | ⟨rfl, rfl⟩
  · cases ds with
    | nil => exact absurd rfl hne
    | cons c r =>
      have hc := hd c (by simp)
      simp only [List.nil_append, Lib.parseIntB]
      rw [if_neg (by omega), hu]
      dsimp only
      rw [if_neg (by omega), if_neg (by omega), if_neg (by omega)]
      simp
  · simp only [List.cons_append, List.nil_append, Lib.parseIntB]
    rw [if_pos (.inl (by decide)), hu]
    dsimp only
    rw [if_neg (by omega), if_neg (by have : (43 : UInt8).toNat = 43 := rfl; omega), if_neg (by decide)]
    simp
  · simp only [List.cons_append, List.nil_append, Lib.parseIntB]
    rw [if_pos (.inr (by decide)), hu]
    dsimp only
    rw [if_neg (by have : (45 : UInt8).toNat = 45 := rfl; omega), if_neg (by omega), if_pos (by decide)]
    simp

theorem toLowerD_ascii : ∀ (l : List UInt8), (∀ b ∈ l, b.toNat < 128) → Lib.toLowerD l = l.map Lib.lowerB
  | [], _ => by simp [Lib.toLowerD, Lib.mapD, Lib.mapGoD]
  | b :: t, h => by
    have hb := h b (by simp)
    have ih := toLowerD_ascii t (fun x hx => h x (by simp [hx]))
    unfold Lib.toLowerD at ih ⊢
    rw [Lib.mapD_step Lib.toLowerU (b :: t) (by simp), Lib.decodeL_ascii b t hb]
    dsimp only
    rw [if_pos (Lib.toLowerU_range b.toNat (by omega)).1, Lib.lower_byte ⟨b.toNat, hb⟩, List.drop_succ_cons, List.drop_zero, ih]
    simp

theorem lowerB_same (b : UInt8) (h : b.toNat < 65) : Lib.lowerB b = b := by
  have h1 := lowerB_nat b (by omega)
  rw [if_neg (by omega)] at h1
  exact UInt8.toNat_inj.1 h1
theorem map_lower_same (l : List UInt8) (h : ∀ b ∈ l, b.toNat < 65) : l.map Lib.lowerB = l := by
  conv => rhs; rw [← List.map_id l]
  exact List.map_congr_left fun b hb => lowerB_same b (h b hb)
theorem lowerB_e {c : UInt8} (h : c = 101 ∨ c = 69) : Lib.lowerB c = 101 := by
  rcases h with rfl | rfl <;> decide

theorem takeWhile_split (m : List UInt8) (c : UInt8) (r : List UInt8) (h : c ∉ m) : (m ++ c :: r).takeWhile (· != c) = m := by
  induction m with
  | nil => simp
  | cons x m ih =>
    simp only [List.mem_cons, not_or] at h
    have hx : (x != c) = true := by simpa using fun e : x = c => h.1 e.symm
    rw [List.cons_append, List.takeWhile_cons_of_pos (p := fun y => y != c) hx, ih h.2]

theorem sgn_small {sg : List UInt8} {n : Bool} (h : SgnOk sg n) : ∀ b ∈ sg, b.toNat = 43 ∨ b.toNat = 45 := by
  rcases h with ⟨rfl, _⟩ | ⟨rfl, _⟩ | ⟨rfl, _⟩ <;> simp
theorem dot_small {dot b : List UInt8} (h : DotOk dot b) : ∀ x ∈ dot, x.toNat = 46 := by
  rcases h with rfl | ⟨rfl, _⟩ <;> simp

/-- The figures ahead of an exponent: all bytes are figures or the point. -/
theorem mant_small {a dot b : List UInt8} (ha : Digs a) (hb : Digs b) (hd : DotOk dot b) : ∀ x ∈ a ++ (dot ++ b), 46 ≤ x.toNat ∧ x.toNat ≤ 57 := by
  intro x hx
  rw [List.mem_append, List.mem_append] at hx
  rcases hx with h | h | h
  · have := ha x h; omega
  · have := dot_small hd x h; omega
  · have := hb x h; omega

def SmallEs (es : List Int) (k : Nat) : Prop := es.length ≤ k ∧ ∀ x ∈ es, -20000 ≤ x ∧ x ≤ 20000

theorem readDot_mant {a dot b : List UInt8} (ha : Digs a) (hb : Digs b) (hd : DotOk dot b) (es : List Int) (hsm : SmallEs es 1) (hbl : b.length ≤ 1000) :
    (readDot (a ++ (dot ++ b)) es).1 = a ++ b ∧ (readDot (a ++ (dot ++ b)) es).2.sum = es.sum - b.length ∧ SmallEs (readDot (a ++ (dot ++ b)) es).2 2 := by
  unfold readDot
  have ha46 : (46 : UInt8) ∉ a := fun h => by have := ha 46 h; have h46 : (46 : UInt8).toNat = 46 := rfl; omega
  rcases hd with rfl | ⟨rfl, rfl⟩
  · rw [if_pos (by simp)]
    have ht : (a ++ ([46] ++ b)).takeWhile (fun x => x != 46) = a := takeWhile_split a 46 b ha46
    rw [ht]
    refine ⟨?_, ?_⟩
    · dsimp only
      rw [List.take_left' rfl]
      congr 1
      rw [show a ++ ([46] ++ b) = (a ++ [46]) ++ b by simp, show a.length + 1 = (a ++ [46]).length by simp, List.drop_left' rfl]
    refine ⟨?_, ?_⟩
    · simp only [List.sum_append, List.length_append, List.length_cons, List.length_nil, List.sum_cons, List.sum_nil]
      omega
    · refine ⟨by have := hsm.1; simp only [List.length_append, List.length_cons, List.length_nil]; omega, fun x hx => ?_⟩
      rw [List.mem_append, List.mem_singleton] at hx
      rcases hx with h | rfl
      · exact hsm.2 x h
      · simp only [List.length_append, List.length_cons, List.length_nil]
        omega
  · rw [List.append_nil, List.append_nil, if_neg ha46]
    exact ⟨by simp, by simp, show es.length ≤ 2 by have := hsm.1; omega, hsm.2⟩

theorem mant_not {a dot b : List UInt8} (ha : Digs a) (hb : Digs b) (hd : DotOk dot b) (c : UInt8) (hc : 57 < c.toNat) : c ∉ a ++ (dot ++ b) := fun h => by
  have := mant_small ha hb hd c h; omega

theorem readLow_mant {a dot b : List UInt8} (ha : Digs a) (hb : Digs b) (hd : DotOk dot b) (hne : a ++ b ≠ []) {low : List UInt8} {es : List Int} (hr : readE low = some (a ++ (dot ++ b), es)) (hsm : SmallEs es 1) (hbl : b.length ≤ 1000) :
    ∃ es', readLow low = some (a ++ b, es') ∧ es'.sum = es.sum - b.length ∧ SmallEs es' 2 := by
  obtain ⟨h1, h2, h3⟩ := readDot_mant ha hb hd es hsm hbl
  refine ⟨(readDot (a ++ (dot ++ b)) es).2, ?_, h2, h3⟩
  unfold readLow
  rw [hr]
  dsimp only
  rw [if_pos]
  · rw [← h1]
  · rw [h1]
    refine ⟨hne, List.all_eq_true.2 fun x hx => ?_⟩
    rw [List.mem_append] at hx
    have hx' : 48 ≤ x.toNat ∧ x.toNat ≤ 57 := hx.elim (ha x) (hb x)
    simp [digB, hx'.1, hx'.2]

/-- What the shape says of the text as setString sees it. -/
structure NumLow (l : List UInt8) (neg : Bool) (ds : List UInt8) (e : Int) : Prop where
  neg : Lib.hasPrefix l [45] = neg
  pre1 : Lib.hasPrefix (Lib.toLowerD (unsign l)) [45] = false
  pre2 : Lib.hasPrefix (Lib.toLowerD (unsign l)) [43] = false
  no_n : (110 : UInt8) ∉ Lib.toLowerD (unsign l)
  len : (Lib.toLowerD (unsign l)).length ≤ l.length
  read : ∃ es, readLow (Lib.toLowerD (unsign l)) = some (ds, es) ∧ es.sum = e ∧ SmallEs es 2

theorem hasPrefix_head (x : UInt8) (t : List UInt8) (c : UInt8) : Lib.hasPrefix (x :: t) [c] = (c == x) := by
  simp [Lib.hasPrefix, List.isPrefixOf]

theorem unsign_shape {sg body : List UInt8} {neg : Bool} (hs : SgnOk sg neg) {x : UInt8} {t : List UInt8} (hb : body = x :: t) (h1 : x ≠ 43) (h2 : x ≠ 45) :
    Lib.hasPrefix (sg ++ body) [45] = neg ∧ unsign (sg ++ body) = body := by
  subst hb
  have e1 : ((43 : UInt8) == x) = false := by simpa using fun h : 43 = x => h1 h.symm
  have e2 : ((45 : UInt8) == x) = false := by simpa using fun h : 45 = x => h2 h.symm
  rcases hs with ⟨rfl, rfl⟩ | ⟨rfl, rfl⟩ | ⟨rfl, rfl⟩
  · have hp : Lib.hasPrefix (x :: t) [45] = false := by rw [hasPrefix_head, e2]
    have hq : Lib.hasPrefix (x :: t) [43] = false := by rw [hasPrefix_head, e1]
    refine ⟨hp, ?_⟩
    simp only [List.nil_append]
    have c1 : cutp (x :: t) [45] = x :: t := by unfold cutp; rw [if_neg (by rw [hp]; simp)]
    have c2 : cutp (x :: t) [43] = x :: t := by unfold cutp; rw [if_neg (by rw [hq]; simp)]
    rw [unsign_else hp, c1, c2]
  · have hp : Lib.hasPrefix (43 :: x :: t) [45] = false := by rw [hasPrefix_head]; decide
    have hq : Lib.hasPrefix (43 :: x :: t) [43] = true := by rw [hasPrefix_head]; decide
    refine ⟨hp, ?_⟩
    simp only [List.cons_append, List.nil_append]
    have c1 : cutp (43 :: x :: t) [45] = 43 :: x :: t := by unfold cutp; rw [if_neg (by rw [hp]; simp)]
    have c2 : cutp (43 :: x :: t) [43] = x :: t := by unfold cutp; rw [if_pos hq]; rfl
    rw [unsign_else hp, c1, c2]
  · have hp : Lib.hasPrefix (45 :: x :: t) [45] = true := by rw [hasPrefix_head]; decide
    refine ⟨hp, ?_⟩
    simp only [List.cons_append, List.nil_append]
    rw [unsign_minus hp]
    unfold cutp
    rw [if_pos hp]
    rfl

theorem numLow {l sg a dot b ex : List UInt8} {neg : Bool} {e : Int} (hl : l = sg ++ (a ++ (dot ++ b) ++ ex)) (hs : SgnOk sg neg) (ha : Digs a) (hb : Digs b) (hd : DotOk dot b) (hne : a ++ b ≠ []) (hx : ExOk ex e) (hbl : b.length ≤ 1000) :
    NumLow l neg (a ++ b) (e - b.length) := by
  have hm := mant_small ha hb hd
  have hmne : a ++ (dot ++ b) ≠ [] := by
    intro h
    rw [List.append_eq_nil_iff, List.append_eq_nil_iff] at h
    exact hne (by rw [h.1, h.2.2]; rfl)
  obtain ⟨m, hmd⟩ : ∃ m, a ++ (dot ++ b) = m := ⟨_, rfl⟩
  have hexs : ∀ x ∈ ex, x.toNat < 128 := by
    intro x hxm
    rcases hx with ⟨rfl, _⟩ | ⟨c, s2, n, ds, rfl, hc, hs2, hds, _⟩
    · simp at hxm
    · simp only [List.mem_cons, List.mem_append] at hxm
      rcases hxm with rfl | h | h
      · rcases hc with rfl | rfl <;> decide
      · have := sgn_small hs2 x h; omega
      · have := hds x h; omega
  have hbodya : ∀ x ∈ m ++ ex, x.toNat < 128 := by
    intro x hxm
    rw [List.mem_append] at hxm
    rcases hxm with h | h
    · rw [← hmd] at h; have := hm x h; omega
    · exact hexs x h
  rw [hmd] at hl hm hmne
  obtain ⟨x, t, hxt⟩ : ∃ x t, m = x :: t := by
    cases m with
    | nil => exact absurd rfl hmne
    | cons x t => exact ⟨x, t, rfl⟩
  have hx0 := hm x (by rw [hxt]; simp)
  have hu := unsign_shape (sg := sg) (body := m ++ ex) hs (x := x) (t := t ++ ex) (by rw [hxt]; rfl) (fun h => by rw [h] at hx0; exact absurd hx0.1 (by decide)) (fun h => by rw [h] at hx0; exact absurd hx0.1 (by decide))
  rw [← hl] at hu
  have hlow : Lib.toLowerD (unsign l) = m ++ ex.map Lib.lowerB := by
    rw [hu.2, toLowerD_ascii _ hbodya, List.map_append, map_lower_same m (fun b hb => by have := hm b hb; omega)]
  have hne1 : x ≠ 45 := fun h => by rw [h] at hx0; exact absurd hx0.1 (by decide)
  have hne2 : x ≠ 43 := fun h => by rw [h] at hx0; exact absurd hx0.1 (by decide)
  have exlow : (110 : UInt8) ∉ ex.map Lib.lowerB ∧ ∃ es, readE (m ++ ex.map Lib.lowerB) = some (m, es) ∧ es.sum = e ∧ SmallEs es 1 := by
    have h101 : (101 : UInt8) ∉ m := fun h => by have := hm 101 h; have h1 : (101 : UInt8).toNat = 101 := rfl; omega
    rcases hx with ⟨rfl, rfl⟩ | ⟨c, s2, n, ds, rfl, hc, hs2, hds, hdne, hdl, rfl⟩
    · refine ⟨by simp, [], ?_, rfl, by simp, by simp⟩
      simp only [List.map_nil, List.append_nil]
      unfold readE
      rw [if_neg h101]
    · have hr : (s2 ++ ds).map Lib.lowerB = s2 ++ ds := map_lower_same _ (fun b hb => by
        rw [List.mem_append] at hb
        rcases hb with h | h
        · have := sgn_small hs2 b h; omega
        · have := hds b h; omega)
      rw [List.map_cons, hr, lowerB_e hc]
      have hsm := decVal_small hds hdl
      refine ⟨?_, [if n = true then -(decVal ds : Int) else (decVal ds : Int)], ?_, by simp, by simp, fun x hx => ?_⟩
      · intro h
        simp only [List.mem_cons, List.mem_append] at h
        have h1 : (110 : UInt8).toNat = 110 := rfl
        rcases h with h | h | h
        · exact absurd h (by decide)
        · have := sgn_small hs2 110 h; omega
        · have := hds 110 h; omega
      · unfold readE
        rw [if_pos (by simp), takeWhile_split m 101 _ h101, show m ++ 101 :: (s2 ++ ds) = (m ++ [101]) ++ (s2 ++ ds) by simp, show m.length + 1 = (m ++ [101]).length by simp, List.drop_left' rfl, parseIntB_digs s2 ds n hs2 hds hdne hdl]
      · rw [List.mem_singleton] at hx
        subst hx
        split <;> omega
  obtain ⟨n1, es, n2, n3, n4⟩ := exlow
  refine ⟨hu.1, ?_, ?_, ?_, ?_, ?_⟩
  · rw [hlow, hxt, List.cons_append, hasPrefix_head]
    simpa using fun h : 45 = x => hne1 h.symm
  · rw [hlow, hxt, List.cons_append, hasPrefix_head]
    simpa using fun h : 43 = x => hne2 h.symm
  · rw [hlow, List.mem_append, not_or]
    exact ⟨fun h => by have := hm 110 h; have h1 : (110 : UInt8).toNat = 110 := rfl; omega, n1⟩
  · rw [hlow, hl]
    simp only [List.length_append, List.length_map]
    omega
  · rw [hlow]
    rw [← hmd] at n2 ⊢
    obtain ⟨es', r1, r2, r3⟩ := readLow_mant ha hb hd hne n2 n4 hbl
    exact ⟨es', r1, by rw [r2, n3], r3⟩
end Go.Proofs.YteokhhepnoelhaaGreatDoor
