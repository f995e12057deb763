/-
  PLAIN: a text that is a number by its shape (sign, figures with a point, exponent) is read by readLow with its figures and its exponent.
-/
import Derived.Test.YteokhhepnoelhaaGreatDoorXat
import Derived.Test.YteokhhepnoelhaaGreatDoorXad
import Derived.Test.YteokhhepnoelhaaGreatDoorXaj
set_option linter.unusedVariables false
set_option linter.unusedSimpArgs false
namespace Go.Proofs.YteokhhepnoelhaaGreatDoor
open Go.RowKit
def SgnOk (sg : List UInt8) (n : Bool) : Prop := (sg = [] ∧ n = false) ∨ (sg = [43] ∧ n = false) ∨ (sg = [45] ∧ n = true)
def DotOk (dot b : List UInt8) : Prop := dot = [46] ∨ (dot = [] ∧ b = [])
def ExOk (ex : List UInt8) (e : Int) : Prop :=
 (ex = [] ∧ e = 0) ∨ ∃ (c : UInt8) (sg : List UInt8) (n : Bool) (ds : List UInt8), ex = c :: (sg ++ ds) ∧ (c = 101 ∨ c = 69) ∧ SgnOk sg n ∧ Digs ds ∧ ds ≠ [] ∧ ds.length ≤ 4 ∧ e = if n = true then -(decVal ds : Int) else (decVal ds : Int)
theorem parseUintM_digs : ∀ (ds : List UInt8) (acc : Nat), Digs ds → (acc + 1) * 10 ^ ds.length ≤ 100000 →
 Lib.parseUintM 4294967295 acc ds = .ok (ds.foldl (fun n b => n * 10 + (b.toNat - 48)) acc)
 | [], acc, _, _ => rfl
 | c :: r, acc, hd, h => by
  have hc := hd c (by simp);have hp : 0 < 10 ^ r.length := Nat.pow_pos (by omega);rw [List.length_cons, Nat.pow_succ] at h;have h1 : (acc * 10 + (c.toNat - 48) + 1) * 10 ^ r.length ≤ 100000 := by
   refine Nat.le_trans (Nat.mul_le_mul_right _ (show acc * 10 + (c.toNat - 48) + 1 ≤ (acc + 1) * 10 by omega)) ?_;rw [Nat.mul_assoc, Nat.mul_comm 10]; exact h
  have h2 : acc * 10 + (c.toNat - 48) + 1 ≤ 100000 := Nat.le_trans (Nat.le_mul_of_pos_right _ hp) h1;simp only [Lib.parseUintM];rw [if_pos hc, if_neg (by omega), if_neg (by omega)];exact parseUintM_digs r _ (fun b hb => hd b (by simp [hb])) h1
theorem decVal_small {ds : List UInt8} (hd : Digs ds) (hl : ds.length ≤ 4) : decVal ds < 10000 := by
 have h1 := decVal_lt ds hd;have h2 : 10 ^ ds.length ≤ 10 ^ 4 := Nat.pow_le_pow_right (by omega) hl;omega
theorem parseIntB_digs (sg ds : List UInt8) (n : Bool) (hs : SgnOk sg n) (hd : Digs ds) (hne : ds ≠ []) (hl : ds.length ≤ 4) :
 Lib.parseIntB 32 (sg ++ ds) = .ok (if n = true then -(decVal ds : Int) else (decVal ds : Int)) := by
 have h1 : (0 + 1) * 10 ^ ds.length ≤ 100000 := by
  have : 10 ^ ds.length ≤ 10 ^ 4 := Nat.pow_le_pow_right (by omega) hl;omega
 have hu : Lib.parseUintB 32 ds = .ok (decVal ds) := by
  unfold Lib.parseUintB;rw [if_neg hne];exact parseUintM_digs ds 0 hd h1
 have hv := decVal_small hd hl;generalize decVal ds = v at *
 rcases hs with ⟨rfl, rfl⟩ | ⟨rfl, rfl⟩ | ⟨rfl, rfl⟩
 · cases ds with
   | nil => exact absurd rfl hne
   | cons c r =>
    have hc := hd c (by simp);simp only [List.nil_append, Lib.parseIntB];rw [if_neg (by omega), hu];dsimp only;rw [if_neg (by omega), if_neg (by omega), if_neg (by omega)];simp
 · simp only [List.cons_append, List.nil_append, Lib.parseIntB];rw [if_pos (.inl (by decide)), hu];dsimp only;rw [if_neg (by omega), if_neg (by have : (43 : UInt8).toNat = 43 := rfl; omega), if_neg (by decide)];simp
 · simp only [List.cons_append, List.nil_append, Lib.parseIntB];rw [if_pos (.inr (by decide)), hu];dsimp only;rw [if_neg (by have : (45 : UInt8).toNat = 45 := rfl; omega), if_neg (by omega), if_pos (by decide)];simp
theorem toLowerD_ascii : ∀ (l : List UInt8), (∀ b ∈ l, b.toNat < 128) → Lib.toLowerD l = l.map Lib.lowerB
 | [], _ => by simp [Lib.toLowerD, Lib.mapD, Lib.mapGoD]
 | b :: t, h => by
  have hb := h b (by simp);have ih := toLowerD_ascii t (fun x hx => h x (by simp [hx]));unfold Lib.toLowerD at ih ⊢;rw [Lib.mapD_step Lib.toLowerU (b :: t) (by simp), Lib.decodeL_ascii b t hb];dsimp only;rw [if_pos (Lib.toLowerU_range b.toNat (by omega)).1, Lib.lower_byte ⟨b.toNat, hb⟩, List.drop_succ_cons, List.drop_zero, ih];simp
theorem lowerB_same (b : UInt8) (h : b.toNat < 65) : Lib.lowerB b = b := by
 have h1 := lowerB_nat b (by omega);rw [if_neg (by omega)] at h1;exact UInt8.toNat_inj.1 h1
theorem map_lower_same (l : List UInt8) (h : ∀ b ∈ l, b.toNat < 65) : l.map Lib.lowerB = l := by
 conv => rhs; rw [← List.map_id l]
 exact List.map_congr_left fun b hb => lowerB_same b (h b hb)
theorem lowerB_e {c : UInt8} (h : c = 101 ∨ c = 69) : Lib.lowerB c = 101 := by
 rcases h with rfl | rfl <;> decide
theorem takeWhile_split (m : List UInt8) (c : UInt8) (r : List UInt8) (h : c ∉ m) : (m ++ c :: r).takeWhile (· != c) = m := by
 induction m with
 | nil => simp
 | cons x m ih =>
  simp only [List.mem_cons, not_or] at h;have hx : (x != c) = true := by simpa using fun e : x = c => h.1 e.symm
  rw [List.cons_append, List.takeWhile_cons_of_pos (p := fun y => y != c) hx, ih h.2]
theorem sgn_small {sg : List UInt8} {n : Bool} (h : SgnOk sg n) : ∀ b ∈ sg, b.toNat = 43 ∨ b.toNat = 45 := by
 rcases h with ⟨rfl, _⟩ | ⟨rfl, _⟩ | ⟨rfl, _⟩ <;> simp
theorem dot_small {dot b : List UInt8} (h : DotOk dot b) : ∀ x ∈ dot, x.toNat = 46 := by
 rcases h with rfl | ⟨rfl, _⟩ <;> simp
theorem mant_small {a dot b : List UInt8} (ha : Digs a) (hb : Digs b) (hd : DotOk dot b) : ∀ x ∈ a ++ (dot ++ b), 46 ≤ x.toNat ∧ x.toNat ≤ 57 := by
 intro x hx;rw [List.mem_append, List.mem_append] at hx;rcases hx with h | h | h;· have := ha x h; omega
 · have := dot_small hd x h; omega
 · have := hb x h; omega
def SmallEs (es : List Int) (k : Nat) : Prop := es.length ≤ k ∧ ∀ x ∈ es, -20000 ≤ x ∧ x ≤ 20000
theorem readDot_mant {a dot b : List UInt8} (ha : Digs a) (hb : Digs b) (hd : DotOk dot b) (es : List Int) (hsm : SmallEs es 1) (hbl : b.length ≤ 1000) :
 (readDot (a ++ (dot ++ b)) es).1 = a ++ b ∧ (readDot (a ++ (dot ++ b)) es).2.sum = es.sum - b.length ∧ SmallEs (readDot (a ++ (dot ++ b)) es).2 2 := by
 unfold readDot;have ha46 : (46 : UInt8) ∉ a := fun h => by have := ha 46 h; have h46 : (46 : UInt8).toNat = 46 := rfl; omega
 rcases hd with rfl | ⟨rfl, rfl⟩
 · rw [if_pos (by simp)];have ht : (a ++ ([46] ++ b)).takeWhile (fun x => x != 46) = a := takeWhile_split a 46 b ha46;rw [ht];refine ⟨?_, ?_⟩
   · dsimp only;rw [List.take_left' rfl];congr 1
     rw [show a ++ ([46] ++ b) = (a ++ [46]) ++ b by simp, show a.length + 1 = (a ++ [46]).length by simp, List.drop_left' rfl]
   refine ⟨?_, ?_⟩;· simp only [List.sum_append, List.length_append, List.length_cons, List.length_nil, List.sum_cons, List.sum_nil];omega
   · refine ⟨by have := hsm.1; simp only [List.length_append, List.length_cons, List.length_nil]; omega, fun x hx => ?_⟩;rw [List.mem_append, List.mem_singleton] at hx;rcases hx with h | rfl
     · exact hsm.2 x h
     · simp only [List.length_append, List.length_cons, List.length_nil];omega
 · rw [List.append_nil, List.append_nil, if_neg ha46];exact ⟨by simp, by simp, show es.length ≤ 2 by have := hsm.1; omega, hsm.2⟩
theorem readLow_mant {a dot b : List UInt8} (ha : Digs a) (hb : Digs b) (hd : DotOk dot b) (hne : a ++ b ≠ []) {low : List UInt8} {es : List Int} (hr : readE low = some (a ++ (dot ++ b), es)) (hsm : SmallEs es 1) (hbl : b.length ≤ 1000) :
 ∃ es', readLow low = some (a ++ b, es') ∧ es'.sum = es.sum - b.length ∧ SmallEs es' 2 := by
 obtain ⟨h1, h2, h3⟩ := readDot_mant ha hb hd es hsm hbl;refine ⟨(readDot (a ++ (dot ++ b)) es).2, ?_, h2, h3⟩;unfold readLow;rw [hr];dsimp only;rw [if_pos];· rw [← h1]
 · rw [h1];refine ⟨hne, List.all_eq_true.2 fun x hx => ?_⟩;rw [List.mem_append] at hx;have hx' : 48 ≤ x.toNat ∧ x.toNat ≤ 57 := hx.elim (ha x) (hb x);simp [digB, hx'.1, hx'.2]
structure NumLow (l : List UInt8) (neg : Bool) (ds : List UInt8) (e : Int) : Prop where
 neg : Lib.hasPrefix l [45] = neg
 pre1 : Lib.hasPrefix (Lib.toLowerD (unsign l)) [45] = false
 pre2 : Lib.hasPrefix (Lib.toLowerD (unsign l)) [43] = false
 no_n : (110 : UInt8) ∉ Lib.toLowerD (unsign l)
 len : (Lib.toLowerD (unsign l)).length ≤ l.length
 read : ∃ es, readLow (Lib.toLowerD (unsign l)) = some (ds, es) ∧ es.sum = e ∧ SmallEs es 2
theorem hasPrefix_head (x : UInt8) (t : List UInt8) (c : UInt8) : Lib.hasPrefix (x :: t) [c] = (c == x) := by
 simp [Lib.hasPrefix, List.isPrefixOf]
theorem unsign_shape {sg body : List UInt8} {neg : Bool} (hs : SgnOk sg neg) {x : UInt8} {t : List UInt8} (hb : body = x :: t) (h1 : x ≠ 43) (h2 : x ≠ 45) :
 Lib.hasPrefix (sg ++ body) [45] = neg ∧ unsign (sg ++ body) = body := by
 subst hb;have e1 : ((43 : UInt8) == x) = false := by simpa using fun h : 43 = x => h1 h.symm
 have e2 : ((45 : UInt8) == x) = false := by simpa using fun h : 45 = x => h2 h.symm
 rcases hs with ⟨rfl, rfl⟩ | ⟨rfl, rfl⟩ | ⟨rfl, rfl⟩
 · have hp : Lib.hasPrefix (x :: t) [45] = false := by rw [hasPrefix_head, e2]
   have hq : Lib.hasPrefix (x :: t) [43] = false := by rw [hasPrefix_head, e1]
   refine ⟨hp, ?_⟩;simp only [List.nil_append];have c1 : cutp (x :: t) [45] = x :: t := by unfold cutp; rw [if_neg (by rw [hp]; simp)]
   have c2 : cutp (x :: t) [43] = x :: t := by unfold cutp; rw [if_neg (by rw [hq]; simp)]
   rw [unsign_else hp, c1, c2]
 · have hp : Lib.hasPrefix (43 :: x :: t) [45] = false := by rw [hasPrefix_head]; decide
   have hq : Lib.hasPrefix (43 :: x :: t) [43] = true := by rw [hasPrefix_head]; decide
   refine ⟨hp, ?_⟩;simp only [List.cons_append, List.nil_append];have c1 : cutp (43 :: x :: t) [45] = 43 :: x :: t := by unfold cutp; rw [if_neg (by rw [hp]; simp)]
   have c2 : cutp (43 :: x :: t) [43] = x :: t := by unfold cutp; rw [if_pos hq]; rfl
   rw [unsign_else hp, c1, c2]
 · have hp : Lib.hasPrefix (45 :: x :: t) [45] = true := by rw [hasPrefix_head]; decide
   refine ⟨hp, ?_⟩;simp only [List.cons_append, List.nil_append];rw [unsign_minus hp];unfold cutp;rw [if_pos hp];rfl
theorem numLow {l sg a dot b ex : List UInt8} {neg : Bool} {e : Int} (hl : l = sg ++ (a ++ (dot ++ b) ++ ex)) (hs : SgnOk sg neg) (ha : Digs a) (hb : Digs b) (hd : DotOk dot b) (hne : a ++ b ≠ []) (hx : ExOk ex e) (hbl : b.length ≤ 1000) :
 NumLow l neg (a ++ b) (e - b.length) := by
 have hm := mant_small ha hb hd;have hmne : a ++ (dot ++ b) ≠ [] := by
  intro h;rw [List.append_eq_nil_iff, List.append_eq_nil_iff] at h;exact hne (by rw [h.1, h.2.2]; rfl)
 obtain ⟨m, hmd⟩ : ∃ m, a ++ (dot ++ b) = m := ⟨_, rfl⟩
 have hexs : ∀ x ∈ ex, x.toNat < 128 := by
  intro x hxm;rcases hx with ⟨rfl, _⟩ | ⟨c, s2, n, ds, rfl, hc, hs2, hds, _⟩
  · simp at hxm
  · simp only [List.mem_cons, List.mem_append] at hxm;rcases hxm with rfl | h | h
    · rcases hc with rfl | rfl <;> decide
    · have := sgn_small hs2 x h; omega
    · have := hds x h; omega
 have hbodya : ∀ x ∈ m ++ ex, x.toNat < 128 := by
  intro x hxm;rw [List.mem_append] at hxm;rcases hxm with h | h;· rw [← hmd] at h; have := hm x h; omega
  · exact hexs x h
 rw [hmd] at hl hm hmne;obtain ⟨x, t, hxt⟩ : ∃ x t, m = x :: t := by
  cases m with
  | nil => exact absurd rfl hmne
  | cons x t => exact ⟨x, t, rfl⟩
 have hx0 := hm x (by rw [hxt]; simp);have hu := unsign_shape (sg := sg) (body := m ++ ex) hs (x := x) (t := t ++ ex) (by rw [hxt]; rfl) (fun h => by rw [h] at hx0; exact absurd hx0.1 (by decide)) (fun h => by rw [h] at hx0; exact absurd hx0.1 (by decide));rw [← hl] at hu;have hlow : Lib.toLowerD (unsign l) = m ++ ex.map Lib.lowerB := by
  rw [hu.2, toLowerD_ascii _ hbodya, List.map_append, map_lower_same m (fun b hb => by have := hm b hb; omega)]
 have hne1 : x ≠ 45 := fun h => by rw [h] at hx0; exact absurd hx0.1 (by decide)
 have hne2 : x ≠ 43 := fun h => by rw [h] at hx0; exact absurd hx0.1 (by decide)
 have exlow : (110 : UInt8) ∉ ex.map Lib.lowerB ∧ ∃ es, readE (m ++ ex.map Lib.lowerB) = some (m, es) ∧ es.sum = e ∧ SmallEs es 1 := by
  have h101 : (101 : UInt8) ∉ m := fun h => by have := hm 101 h; have h1 : (101 : UInt8).toNat = 101 := rfl; omega
  rcases hx with ⟨rfl, rfl⟩ | ⟨c, s2, n, ds, rfl, hc, hs2, hds, hdne, hdl, rfl⟩
  · refine ⟨by simp, [], ?_, rfl, by simp, by simp⟩;simp only [List.map_nil, List.append_nil];unfold readE;rw [if_neg h101]
  · have hr : (s2 ++ ds).map Lib.lowerB = s2 ++ ds := map_lower_same _ (fun b hb => by
     rw [List.mem_append] at hb;rcases hb with h | h;· have := sgn_small hs2 b h; omega
     · have := hds b h; omega)
    rw [List.map_cons, hr, lowerB_e hc];have hsm := decVal_small hds hdl;refine ⟨?_, [if n = true then -(decVal ds : Int) else (decVal ds : Int)], ?_, by simp, by simp, fun x hx => ?_⟩
    · intro h;simp only [List.mem_cons, List.mem_append] at h;have h1 : (110 : UInt8).toNat = 110 := rfl;rcases h with h | h | h
      · exact absurd h (by decide)
      · have := sgn_small hs2 110 h; omega
      · have := hds 110 h; omega
    · unfold readE;rw [if_pos (by simp), takeWhile_split m 101 _ h101, show m ++ 101 :: (s2 ++ ds) = (m ++ [101]) ++ (s2 ++ ds) by simp, show m.length + 1 = (m ++ [101]).length by simp, List.drop_left' rfl, parseIntB_digs s2 ds n hs2 hds hdne hdl]
    · rw [List.mem_singleton] at hx;subst hx;split <;> omega
 obtain ⟨n1, es, n2, n3, n4⟩ := exlow;refine ⟨hu.1, ?_, ?_, ?_, ?_, ?_⟩;· rw [hlow, hxt, List.cons_append, hasPrefix_head];simpa using fun h : 45 = x => hne1 h.symm
 · rw [hlow, hxt, List.cons_append, hasPrefix_head];simpa using fun h : 43 = x => hne2 h.symm
 · rw [hlow, List.mem_append, not_or];exact ⟨fun h => by have := hm 110 h; have h1 : (110 : UInt8).toNat = 110 := rfl; omega, n1⟩
 · rw [hlow, hl];simp only [List.length_append, List.length_map];omega
 · rw [hlow];rw [← hmd] at n2 ⊢;obtain ⟨es', r1, r2, r3⟩ := readLow_mant ha hb hd hne n2 n4 hbl;exact ⟨es', r1, by rw [r2, n3], r3⟩
def ExTail (l : List UInt8) (a : Int) : Prop :=
 ∃ (sg : List UInt8) (n : Bool) (ds : List UInt8), l = sg ++ ds ∧ SgnOk sg n ∧ Digs ds ∧ ds ≠ [] ∧ ds.length ≤ 4 ∧ a = if n = true then -(decVal ds : Int) else (decVal ds : Int)
def ExpEnd (w : World) (neg0 : Bool) (u : Value) (e0 : Int) (l : List UInt8) (e : Ending) (w' : World) : Prop :=
 Fr NoB w w' ∧ ∃ (x : Int) (ok : Bool), e = .returned (.tuple #[.agg #[.bool neg0, u, .int .i64 x], .bool ok]) ∧ (ok = true → ∃ a, ExTail l a ∧ x = e0 + a)
theorem expEnd_no {w w' : World} {neg0 : Bool} {u : Value} {e0 : Int} {l : List UInt8} (h : Fr NoB w w') : ExpEnd w neg0 u e0 l (.returned (.tuple #[.agg #[.bool neg0, u, .int .i64 e0], .bool false])) w' :=
 ⟨h, e0, false, rfl, fun h => by cases h⟩
theorem digs_snoc {l : List UInt8} {k : Nat} {b : UInt8} (h : Digs (l.take k)) (hb : l[k]? = some b) (hd : 48 ≤ b.toNat ∧ b.toNat ≤ 57) : Digs (l.take (k + 1)) := by
 intro c hc;rw [List.take_add_one, hb] at hc;simp only [Option.toList_some, List.mem_append, List.mem_singleton] at hc;rcases hc with hc | rfl;· exact h c hc
 · exact hd
set_option maxRecDepth 100000 in
set_option maxHeartbeats 4000000 in
theorem specExponent_minus (neg0 : Bool) (A : Option Addr) (n c : Nat) (e0 : Int) (l ds : List UInt8) (w : World) (he0 : -1000 ≤ e0) (he0' : e0 ≤ 1000) (hl : l.length ≤ 100) (hl1 : l = 45 :: ds) :
 Calls Tryz.prog 22 #[.agg #[.bool neg0, .slice A n c, .int .i64 e0], .string ⟨l.toArray⟩] w (ExpEnd w neg0 (.slice A n c) e0 l) := by
 have HX : Hid (Digs ds → ds.length ≠ 0 → ¬ 4 < ds.length → ExTail l (if true = true then -(decVal ds : Int) else (decVal ds : Int))) := hid (fun h h0 h4 => ⟨[45], true, ds, hl1, .inr (.inr ⟨rfl, rfl⟩), h, fun e => h0 (by rw [e]; rfl), by omega, rfl⟩);have hlen : l.length = ds.length + 1 := by rw [hl1]; rfl
 have hpos : (0 : Int) < l.length := by omega
 have hlt0 : 0 < (ByteArray.mk l.toArray).size := by rw [str_size]; omega
 have hg := str_get l 0 45 (by rw [hl1]; rfl) hlt0;have hdr : (ByteArray.mk l.toArray).extract 1 l.length = ⟨ds.toArray⟩ := by rw [str_drop, hl1]; rfl
 have hz := str_size l;have hz2 := str_size ds;have HLEN := hid hlen;clear hl1 hlen;by_cases d0 : ds.length = 0
 · have d0z : ((ds.length : Int) == 0) = true := by simp [d0]
   have hds0 : (ds.length : Int) = 0 := by omega
   go_enter Tryz.func22, Tryz.ntmps22;go_wp2_with fail;exact bodyPost_ret (v := .tuple #[.agg #[.bool neg0, .slice A n c, .int .i64 e0], .bool false]) (by simp [results, Tryz.results22, go_sem]) rfl (expEnd_no (((Fr.refl _ _).alloc _).alloc _))
 by_cases d4 : 4 < ds.length
 · have d0z : ((ds.length : Int) == 0) = false := beq_eq_false_iff_ne.2 (by omega);have d4z : (4 : Int) < (ds.length : Int) := by omega
   go_enter Tryz.func22, Tryz.ntmps22;go_wp2_with fail;exact bodyPost_ret (v := .tuple #[.agg #[.bool neg0, .slice A n c, .int .i64 e0], .bool false]) (by simp [results, Tryz.results22, go_sem]) rfl (expEnd_no (((Fr.refl _ _).alloc _).alloc _))
 have d0z : ((ds.length : Int) == 0) = false := beq_eq_false_iff_ne.2 (by omega);have d4z : (ds.length : Int) ≤ 4 := by omega
 go_enter Tryz.func22, Tryz.ntmps22;go_wp2_with fail;have hF : Fr NoB w ((w.alloc (.cells #[.bool neg0, .slice A n c, .int .i64 e0] 25)).alloc (.cells #[.bool false, .slice none 0 0, .int .i64 0] 25)) := ((Fr.refl _ _).alloc _).alloc _;have HF := hid hF;clear hF;go_loopw [7, 41] (fun ev i wr => ∃ k : Nat, k ≤ ds.length ∧ wr = (w.alloc (.cells #[.bool neg0, .slice A n c, .int .i64 e0] 25)).alloc (.cells #[.bool false, .slice none 0 0, .int .i64 0] 25) ∧ i = .int .i64 k ∧ ev = .int .i64 (decVal (ds.take k)) ∧ Hid (Digs (ds.take k))) (fun _ i _ => ds.length - (intOf i).toNat);case atStart => exact ⟨0, Nat.zero_le _, rfl, rfl, rfl, hid (by intro b hb; simp at hb)⟩
 case round =>
  obtain ⟨k, hk, rfl, rfl, rfl, hD⟩ := hrel;have hdv := decVal_small hD.out (by rw [List.length_take]; omega);by_cases hlt : k < ds.length
  · obtain ⟨b, hb⟩ : ∃ b, ds[k]? = some b := ⟨ds[k], List.getElem?_eq_getElem hlt⟩
    have hlt' : k < (ByteArray.mk ds.toArray).size := by rw [str_size]; exact hlt
    have hgk := str_get ds k b hb hlt';have hlz : (k : Int) < (ds.length : Int) := by omega
    have hzd := str_size ds;by_cases hdig : 48 ≤ b.toNat ∧ b.toNat ≤ 57
    · have hDn := hid (digs_snoc hD.out hb hdig);have hDV := hid (decVal_take ds k b hb);have q1 : (48 : Int) ≤ b.toNat := by omega
      have q2 : (b.toNat : Int) ≤ 57 := by omega
      have q3 : ¬ (b.toNat : Int) < 48 := by omega
      have q4 : ¬ (57 : Int) < b.toNat := by omega
      clear hb hD;generalize decVal (ds.take k) = dv at *
      go_wp2_with fail;exact ⟨⟨k + 1, by omega, trivial, by go_num, by rw [hDV.out]; exact congrArg (Value.int .i64) (by omega), hDn⟩, by simp [intOf]; omega⟩
    · clear hb;have hcase : (b.toNat : Int) < 48 ∨ (57 : Int) < b.toNat := by omega
      rcases hcase with h | h;· clear hdig;go_wp2_with fail;exact bodyPost_ret (v := .tuple #[.agg #[.bool neg0, .slice A n c, .int .i64 e0], .bool false]) (by simp [results, Tryz.results22, go_sem]) rfl (expEnd_no (((Fr.refl _ _).alloc _).alloc _))
      · have h' : ¬ (b.toNat : Int) < 48 := by omega
        clear hdig;go_wp2_with fail;exact bodyPost_ret (v := .tuple #[.agg #[.bool neg0, .slice A n c, .int .i64 e0], .bool false]) (by simp [results, Tryz.results22, go_sem]) rfl (expEnd_no (((Fr.refl _ _).alloc _).alloc _))
  · obtain rfl : k = ds.length := by omega
    have hzd := str_size ds;rw [List.take_length] at hD hdv ⊢;have hge : ¬ ((ds.length : Int) < (ds.length : Int)) := by omega
    have hX := hid (HX.out hD.out d0 d4);clear hk hlt hD;generalize decVal ds = dv at *
    go_wp2_with fail;exact bodyPost_ret (v := .tuple #[.agg #[.bool neg0, .slice A n c, .int .i64 (e0 + -(dv : Int))], .bool true]) (by simp [results, Tryz.results22, go_sem]) rfl ⟨(((Fr.refl _ _).alloc _).alloc _), _, true, rfl, fun _ => ⟨_, hX.out, rfl⟩⟩
set_option maxRecDepth 100000 in
set_option maxHeartbeats 4000000 in
theorem specExponent_plus (neg0 : Bool) (A : Option Addr) (n c : Nat) (e0 : Int) (l ds : List UInt8) (w : World) (he0 : -1000 ≤ e0) (he0' : e0 ≤ 1000) (hl : l.length ≤ 100) (hl1 : l = 43 :: ds) :
 Calls Tryz.prog 22 #[.agg #[.bool neg0, .slice A n c, .int .i64 e0], .string ⟨l.toArray⟩] w (ExpEnd w neg0 (.slice A n c) e0 l) := by
 have HX : Hid (Digs ds → ds.length ≠ 0 → ¬ 4 < ds.length → ExTail l (if false = true then -(decVal ds : Int) else (decVal ds : Int))) := hid (fun h h0 h4 => ⟨[43], false, ds, hl1, .inr (.inl ⟨rfl, rfl⟩), h, fun e => h0 (by rw [e]; rfl), by omega, rfl⟩);have hlen : l.length = ds.length + 1 := by rw [hl1]; rfl
 have hpos : (0 : Int) < l.length := by omega
 have hlt0 : 0 < (ByteArray.mk l.toArray).size := by rw [str_size]; omega
 have hg := str_get l 0 43 (by rw [hl1]; rfl) hlt0;have hdr : (ByteArray.mk l.toArray).extract 1 l.length = ⟨ds.toArray⟩ := by rw [str_drop, hl1]; rfl
 have hz := str_size l;have hz2 := str_size ds;have HLEN := hid hlen;clear hl1 hlen;by_cases d0 : ds.length = 0
 · have d0z : ((ds.length : Int) == 0) = true := by simp [d0]
   have hds0 : (ds.length : Int) = 0 := by omega
   go_enter Tryz.func22, Tryz.ntmps22;go_wp2_with fail;exact bodyPost_ret (v := .tuple #[.agg #[.bool neg0, .slice A n c, .int .i64 e0], .bool false]) (by simp [results, Tryz.results22, go_sem]) rfl (expEnd_no (((Fr.refl _ _).alloc _).alloc _))
 by_cases d4 : 4 < ds.length
 · have d0z : ((ds.length : Int) == 0) = false := beq_eq_false_iff_ne.2 (by omega);have d4z : (4 : Int) < (ds.length : Int) := by omega
   go_enter Tryz.func22, Tryz.ntmps22;go_wp2_with fail;exact bodyPost_ret (v := .tuple #[.agg #[.bool neg0, .slice A n c, .int .i64 e0], .bool false]) (by simp [results, Tryz.results22, go_sem]) rfl (expEnd_no (((Fr.refl _ _).alloc _).alloc _))
 have d0z : ((ds.length : Int) == 0) = false := beq_eq_false_iff_ne.2 (by omega);have d4z : (ds.length : Int) ≤ 4 := by omega
 go_enter Tryz.func22, Tryz.ntmps22;go_wp2_with fail;have hF : Fr NoB w ((w.alloc (.cells #[.bool neg0, .slice A n c, .int .i64 e0] 25)).alloc (.cells #[.bool false, .slice none 0 0, .int .i64 0] 25)) := ((Fr.refl _ _).alloc _).alloc _;have HF := hid hF;clear hF;go_loopw [7, 41] (fun ev i wr => ∃ k : Nat, k ≤ ds.length ∧ wr = (w.alloc (.cells #[.bool neg0, .slice A n c, .int .i64 e0] 25)).alloc (.cells #[.bool false, .slice none 0 0, .int .i64 0] 25) ∧ i = .int .i64 k ∧ ev = .int .i64 (decVal (ds.take k)) ∧ Hid (Digs (ds.take k))) (fun _ i _ => ds.length - (intOf i).toNat);case atStart => exact ⟨0, Nat.zero_le _, rfl, rfl, rfl, hid (by intro b hb; simp at hb)⟩
 case round =>
  obtain ⟨k, hk, rfl, rfl, rfl, hD⟩ := hrel;have hdv := decVal_small hD.out (by rw [List.length_take]; omega);by_cases hlt : k < ds.length
  · obtain ⟨b, hb⟩ : ∃ b, ds[k]? = some b := ⟨ds[k], List.getElem?_eq_getElem hlt⟩
    have hlt' : k < (ByteArray.mk ds.toArray).size := by rw [str_size]; exact hlt
    have hgk := str_get ds k b hb hlt';have hlz : (k : Int) < (ds.length : Int) := by omega
    have hzd := str_size ds;by_cases hdig : 48 ≤ b.toNat ∧ b.toNat ≤ 57
    · have hDn := hid (digs_snoc hD.out hb hdig);have hDV := hid (decVal_take ds k b hb);have q1 : (48 : Int) ≤ b.toNat := by omega
      have q2 : (b.toNat : Int) ≤ 57 := by omega
      have q3 : ¬ (b.toNat : Int) < 48 := by omega
      have q4 : ¬ (57 : Int) < b.toNat := by omega
      clear hb hD;generalize decVal (ds.take k) = dv at *
      go_wp2_with fail;exact ⟨⟨k + 1, by omega, trivial, by go_num, by rw [hDV.out]; exact congrArg (Value.int .i64) (by omega), hDn⟩, by simp [intOf]; omega⟩
    · clear hb;have hcase : (b.toNat : Int) < 48 ∨ (57 : Int) < b.toNat := by omega
      rcases hcase with h | h;· clear hdig;go_wp2_with fail;exact bodyPost_ret (v := .tuple #[.agg #[.bool neg0, .slice A n c, .int .i64 e0], .bool false]) (by simp [results, Tryz.results22, go_sem]) rfl (expEnd_no (((Fr.refl _ _).alloc _).alloc _))
      · have h' : ¬ (b.toNat : Int) < 48 := by omega
        clear hdig;go_wp2_with fail;exact bodyPost_ret (v := .tuple #[.agg #[.bool neg0, .slice A n c, .int .i64 e0], .bool false]) (by simp [results, Tryz.results22, go_sem]) rfl (expEnd_no (((Fr.refl _ _).alloc _).alloc _))
  · obtain rfl : k = ds.length := by omega
    have hzd := str_size ds;rw [List.take_length] at hD hdv ⊢;have hge : ¬ ((ds.length : Int) < (ds.length : Int)) := by omega
    have hX := hid (HX.out hD.out d0 d4);clear hk hlt hD;generalize decVal ds = dv at *
    go_wp2_with fail;exact bodyPost_ret (v := .tuple #[.agg #[.bool neg0, .slice A n c, .int .i64 (e0 + (dv : Int))], .bool true]) (by simp [results, Tryz.results22, go_sem]) rfl ⟨(((Fr.refl _ _).alloc _).alloc _), _, true, rfl, fun _ => ⟨_, hX.out, rfl⟩⟩
set_option maxRecDepth 100000 in
set_option maxHeartbeats 4000000 in
theorem specExponent_none (neg0 : Bool) (A : Option Addr) (n c : Nat) (e0 : Int) (l ds : List UInt8) (w : World) (he0 : -1000 ≤ e0) (he0' : e0 ≤ 1000) (hl : l.length ≤ 100) (x : UInt8) (t : List UInt8) (hl1 : l = ds) (hl2 : l = x :: t) (hx1 : x ≠ 45) (hx2 : x ≠ 43) :
 Calls Tryz.prog 22 #[.agg #[.bool neg0, .slice A n c, .int .i64 e0], .string ⟨l.toArray⟩] w (ExpEnd w neg0 (.slice A n c) e0 l) := by
 subst hl1;have HX : Hid (Digs l → l.length ≠ 0 → ¬ 4 < l.length → ExTail l (if false = true then -(decVal l : Int) else (decVal l : Int))) := hid (fun h h0 h4 => ⟨[], false, l, rfl, .inl ⟨rfl, rfl⟩, h, fun e => h0 (by rw [e]; rfl), by omega, rfl⟩);have hpos : (0 : Int) < l.length := by rw [hl2]; simp only [List.length_cons]; omega
 have hlt0 : 0 < (ByteArray.mk l.toArray).size := by rw [str_size]; omega
 have hg := str_get l 0 x (by rw [hl2]; rfl) hlt0;have hz := str_size l;have q45 : ((x.toNat : Int) == 45) = false := by rw [beq_eq_false_iff_ne]; intro h; exact hx1 (UInt8.toNat_inj.1 (by show x.toNat = 45; omega))
 have q43 : ((x.toNat : Int) == 43) = false := by rw [beq_eq_false_iff_ne]; intro h; exact hx2 (UInt8.toNat_inj.1 (by show x.toNat = 43; omega))
 clear hl2 hx1 hx2;by_cases d0 : l.length = 0;· exfalso; omega
 by_cases d4 : 4 < l.length
 · have d0z : ((l.length : Int) == 0) = false := beq_eq_false_iff_ne.2 (by omega);have d4z : (4 : Int) < (l.length : Int) := by omega
   go_enter Tryz.func22, Tryz.ntmps22;go_wp2_with fail;exact bodyPost_ret (v := .tuple #[.agg #[.bool neg0, .slice A n c, .int .i64 e0], .bool false]) (by simp [results, Tryz.results22, go_sem]) rfl (expEnd_no (((Fr.refl _ _).alloc _).alloc _))
 have d0z : ((l.length : Int) == 0) = false := beq_eq_false_iff_ne.2 (by omega);have d4z : (l.length : Int) ≤ 4 := by omega
 go_enter Tryz.func22, Tryz.ntmps22;go_wp2_with fail;have hF : Fr NoB w ((w.alloc (.cells #[.bool neg0, .slice A n c, .int .i64 e0] 25)).alloc (.cells #[.bool false, .slice none 0 0, .int .i64 0] 25)) := ((Fr.refl _ _).alloc _).alloc _;have HF := hid hF;clear hF;go_loopw [7, 41] (fun ev i wr => ∃ k : Nat, k ≤ l.length ∧ wr = (w.alloc (.cells #[.bool neg0, .slice A n c, .int .i64 e0] 25)).alloc (.cells #[.bool false, .slice none 0 0, .int .i64 0] 25) ∧ i = .int .i64 k ∧ ev = .int .i64 (decVal (l.take k)) ∧ Hid (Digs (l.take k))) (fun _ i _ => l.length - (intOf i).toNat);case atStart => exact ⟨0, Nat.zero_le _, rfl, rfl, rfl, hid (by intro b hb; simp at hb)⟩
 case round =>
  obtain ⟨k, hk, rfl, rfl, rfl, hD⟩ := hrel;have hdv := decVal_small hD.out (by rw [List.length_take]; omega);by_cases hlt : k < l.length
  · obtain ⟨b, hb⟩ : ∃ b, l[k]? = some b := ⟨l[k], List.getElem?_eq_getElem hlt⟩
    have hlt' : k < (ByteArray.mk l.toArray).size := by rw [str_size]; exact hlt
    have hgk := str_get l k b hb hlt';have hlz : (k : Int) < (l.length : Int) := by omega
    have hzd := str_size l;by_cases hdig : 48 ≤ b.toNat ∧ b.toNat ≤ 57
    · have hDn := hid (digs_snoc hD.out hb hdig);have hDV := hid (decVal_take l k b hb);have q1 : (48 : Int) ≤ b.toNat := by omega
      have q2 : (b.toNat : Int) ≤ 57 := by omega
      have q3 : ¬ (b.toNat : Int) < 48 := by omega
      have q4 : ¬ (57 : Int) < b.toNat := by omega
      clear hb hD;generalize decVal (l.take k) = dv at *
      go_wp2_with fail;exact ⟨⟨k + 1, by omega, trivial, by go_num, by rw [hDV.out]; exact congrArg (Value.int .i64) (by omega), hDn⟩, by simp [intOf]; omega⟩
    · clear hb;have hcase : (b.toNat : Int) < 48 ∨ (57 : Int) < b.toNat := by omega
      rcases hcase with h | h;· clear hdig;go_wp2_with fail;exact bodyPost_ret (v := .tuple #[.agg #[.bool neg0, .slice A n c, .int .i64 e0], .bool false]) (by simp [results, Tryz.results22, go_sem]) rfl (expEnd_no (((Fr.refl _ _).alloc _).alloc _))
      · have h' : ¬ (b.toNat : Int) < 48 := by omega
        clear hdig;go_wp2_with fail;exact bodyPost_ret (v := .tuple #[.agg #[.bool neg0, .slice A n c, .int .i64 e0], .bool false]) (by simp [results, Tryz.results22, go_sem]) rfl (expEnd_no (((Fr.refl _ _).alloc _).alloc _))
  · obtain rfl : k = l.length := by omega
    have hzd := str_size l;rw [List.take_length] at hD hdv ⊢;have hge : ¬ ((l.length : Int) < (l.length : Int)) := by omega
    have hX := hid (HX.out hD.out d0 d4);clear hk hlt hD;generalize decVal l = dv at *
    go_wp2_with fail;exact bodyPost_ret (v := .tuple #[.agg #[.bool neg0, .slice A n c, .int .i64 (e0 + (dv : Int))], .bool true]) (by simp [results, Tryz.results22, go_sem]) rfl ⟨(((Fr.refl _ _).alloc _).alloc _), _, true, rfl, fun _ => ⟨_, hX.out, rfl⟩⟩
set_option maxRecDepth 100000 in
set_option maxHeartbeats 4000000 in
theorem specExponent_empty (neg0 : Bool) (A : Option Addr) (n c : Nat) (e0 : Int) (w : World) :
 Calls Tryz.prog 22 #[.agg #[.bool neg0, .slice A n c, .int .i64 e0], .string ⟨([] : List UInt8).toArray⟩] w (ExpEnd w neg0 (.slice A n c) e0 []) := by
 go_enter Tryz.func22, Tryz.ntmps22;go_wp2_with fail;exact bodyPost_ret (v := .tuple #[.agg #[.bool neg0, .slice A n c, .int .i64 e0], .bool false]) (by simp [results, Tryz.results22, go_sem]) rfl (expEnd_no (((Fr.refl _ _).alloc _).alloc _))
theorem specExponent (neg0 : Bool) (A : Option Addr) (n c : Nat) (e0 : Int) (l : List UInt8) (w : World) (he0 : -1000 ≤ e0) (he0' : e0 ≤ 1000) (hl : l.length ≤ 100) :
 Calls Tryz.prog 22 #[.agg #[.bool neg0, .slice A n c, .int .i64 e0], .string ⟨l.toArray⟩] w (ExpEnd w neg0 (.slice A n c) e0 l) := by
 cases h : l with
 | nil => exact specExponent_empty neg0 A n c e0 w
 | cons x t =>
  rw [← h];by_cases h1 : x = 45;· exact specExponent_minus neg0 A n c e0 l t w he0 he0' hl (by rw [h, h1])
  · by_cases h2 : x = 43
    · exact specExponent_plus neg0 A n c e0 l t w he0 he0' hl (by rw [h, h2])
    · exact specExponent_none neg0 A n c e0 l l w he0 he0' hl x t rfl h h1 h2
theorem u8_wr (n : Int) : IntKind.u8.wrap n = n % 256 := by kernel_rfl
def NumText (l : List UInt8) (neg : Bool) (ds : List UInt8) (e : Int) : Prop :=
 ∃ (sg a dot b ex : List UInt8) (x : Int), l = sg ++ (a ++ (dot ++ b) ++ ex) ∧ SgnOk sg neg ∧ Digs a ∧ Digs b ∧ DotOk dot b ∧ a ++ b ≠ [] ∧ ExOk ex x ∧ ds = a ++ b ∧ e = x - b.length
def ReadEnd8 (w : World) (l : List UInt8) (e : Ending) (w' : World) : Prop :=
 Fr NoB w w' ∧ ∃ (neg : Bool) (A : Option Addr) (n c : Nat) (x : Int) (ok : Bool), e = .returned (.tuple #[.agg #[.bool neg, .slice A n c, .int .i64 x], .bool ok]) ∧ (ok = true → ∃ ds, NumText l neg ds x ∧ CN w' A n c (digs (decVal ds)))
theorem readEnd_no {w w' : World} {l : List UInt8} (neg : Bool) (A : Option Addr) (n c : Nat) (x : Int) (h : Fr NoB w w') : ReadEnd8 w l (.returned (.tuple #[.agg #[.bool neg, .slice A n c, .int .i64 x], .bool false])) w' :=
 ⟨h, neg, A, n, c, x, false, rfl, fun h => by cases h⟩
def dotOf (p : Bool) : List UInt8 := if p = true then [46] else []
theorem dotOk_of {p : Bool} {b : List UInt8} (h : p = false → b = []) : DotOk (dotOf p) b := by
 cases p with
 | true => exact .inl rfl
 | false => exact .inr ⟨rfl, h rfl⟩
def RdAt (w0 : World) (R : Nat) (neg : Bool) (s : List UInt8) (k : Nat) (a b : List UInt8) (p : Bool) (A : Option Addr) (n c : Nat) (wr : World) : Prop :=
 s.take k = a ++ (dotOf p ++ b) ∧ Digs a ∧ Digs b ∧ (p = false → b = []) ∧ CB wr (R + 2) A n c (digs (decVal (a ++ b))) ∧ BlkAt wr (R + 1) #[.bool neg, .slice A n c, .int .i64 0] 25 ∧ BlkAt wr R #[.bool false, .slice none 0 0, .int .i64 0] 25 ∧ Fr NoB w0 wr
theorem RdAt.start {w0 W : World} {R : Nat} {neg : Bool} {s : List UInt8} (h1 : BlkAt W (R + 1) #[.bool neg, .slice none 0 0, .int .i64 0] 25) (h2 : BlkAt W R #[.bool false, .slice none 0 0, .int .i64 0] 25) (h3 : Fr NoB w0 W) :
 RdAt w0 R neg s 0 [] [] false none 0 0 W :=
 ⟨rfl, by intro b hb; simp at hb, by intro b hb; simp at hb, fun _ => rfl, by rw [show decVal ([] ++ [] : List UInt8) = 0 from rfl, digs_zero]; exact CB.nil W _, h1, h2, h3⟩
theorem RdAt.len {w0 wr : World} {R k n c : Nat} {neg p : Bool} {s a b : List UInt8} {A : Option Addr} (h : RdAt w0 R neg s k a b p A n c wr) (hk : k ≤ s.length) : a.length + b.length ≤ k := by
 have := congrArg List.length h.1;simp only [List.length_take, List.length_append] at this;omega
theorem RdAt.val {w0 wr : World} {R k n c : Nat} {neg p : Bool} {s a b : List UInt8} {A : Option Addr} (h : RdAt w0 R neg s k a b p A n c wr) (hk : k ≤ s.length) (hs : s.length ≤ 60) : (digs (decVal (a ++ b))).length ≤ 20 := by
 have h1 : Digs (a ++ b) := fun x hx => by
  rw [List.mem_append] at hx;exact hx.elim (h.2.1 x) (h.2.2.1 x)
 have h2 := decVal_lt _ h1;have h3 := h.len hk;rw [List.length_append] at h2;have h4 : 10 ^ (a.length + b.length) ≤ 10 ^ 60 := Nat.pow_le_pow_right (by omega) (by omega);have h5 : (10 : Nat) ^ 60 ≤ 65536 ^ 20 := by decide
 exact digs_length_le 20 _ (by omega)
theorem RdAt.digit {w0 wr w1 : World} {R k n c n' c' : Nat} {neg p : Bool} {s a b : List UInt8} {A A' : Option Addr} {x : UInt8} (h : RdAt w0 R neg s k a b p A n c wr) (hx : s[k]? = some x) (hd : 48 ≤ x.toNat ∧ x.toNat ≤ 57)
 (hF : Fr NoB wr w1) (hC : CB w1 (R + 2) A' n' c' (digs (decVal (a ++ b) * 10 + (x.toNat - 48)))) (hR : w0.heap.size ≤ R) :
 RdAt w0 R neg s (k + 1) (if p = true then a else a ++ [x]) (if p = true then b ++ [x] else b) p A' n' c' (w1.setCell ⟨R + 1, 1, none⟩ (.slice A' n' c')) := by
 obtain ⟨e1, e2, e3, e4, e5, e6, e7, e8⟩ := h;have hab : (if p = true then a else a ++ [x]) ++ (if p = true then b ++ [x] else b) = (a ++ b) ++ [x] := by
  cases p with
  | true => simp
  | false => simp [e4 rfl]
 refine ⟨?_, ?_, ?_, ?_, ?_, ?_, ?_, ?_⟩
 · rw [List.take_add_one, hx, e1];cases p with
   | true => simp [dotOf]
   | false => simp [dotOf, e4 rfl]
 · cases p with
   | true => exact e2
   | false =>
    intro y hy;simp only [Bool.false_eq_true, if_false, List.mem_append, List.mem_singleton] at hy;rcases hy with hy | rfl;· exact e2 y hy
    · exact hd
 · cases p with
   | true =>
    intro y hy;simp only [if_true, List.mem_append, List.mem_singleton] at hy;rcases hy with hy | rfl;· exact e3 y hy
    · exact hd
   | false => exact e3
 · intro hp; subst hp; simpa using e4 rfl
 · rw [hab, decVal_snoc];exact hC.far (p := ⟨R + 1, 1, none⟩) (by show R + 1 < R + 2; omega) _
 · exact blk_set (hF.blk e6 (fun h => h)) 1 _
 · exact blk_far (p := ⟨R + 1, 1, none⟩) (hF.blk e7 (fun h => h)) (by show R ≠ R + 1; omega) _
 · exact Fr.setCell (p := ⟨R + 1, 1, none⟩) (e8.trans hF (fun _ _ h => h)) (fun h => by have h : R + 1 < w0.heap.size := h; omega) _
theorem RdAt.dot {w0 wr : World} {R k n c : Nat} {neg : Bool} {s a b : List UInt8} {A : Option Addr} (h : RdAt w0 R neg s k a b false A n c wr) (hx : s[k]? = some 46) :
 b = [] ∧ RdAt w0 R neg s (k + 1) a b true A n c wr := by
 obtain ⟨e1, e2, e3, e4, e5, e6, e7, e8⟩ := h;have hb := e4 rfl;refine ⟨hb, ?_, e2, e3, (fun h => by cases h), e5, e6, e7, e8⟩;rw [List.take_add_one, hx, e1, hb];simp [dotOf]
theorem RdAt.cells {w0 wr : World} {R k n c : Nat} {neg p : Bool} {s a b : List UInt8} {A : Option Addr} (h : RdAt w0 R neg s k a b p A n c wr) :
 (wr.cell? ⟨R + 1, 0, none⟩ = some (.bool neg) ∧ wr.cell? ⟨R + 1, 1, none⟩ = some (.slice A n c) ∧ wr.cell? ⟨R + 1, 2, none⟩ = some (.int .i64 0)) ∧
 (wr.cell? ⟨R, 0, none⟩ = some (.bool false) ∧ wr.cell? ⟨R, 1, none⟩ = some (.slice none 0 0) ∧ wr.cell? ⟨R, 2, none⟩ = some (.int .i64 0)) ∧
 (wr.frozen? ⟨R + 1, 0, none⟩ = false ∧ wr.frozen? ⟨R + 1, 1, none⟩ = false ∧ wr.frozen? ⟨R + 1, 2, none⟩ = false) ∧
 (wr.frozen? ⟨R, 0, none⟩ = false ∧ wr.frozen? ⟨R, 1, none⟩ = false ∧ wr.frozen? ⟨R, 2, none⟩ = false) := by
 obtain ⟨e1, e2, e3, e4, e5, e6, e7, e8⟩ := h;exact ⟨⟨by rw [blk_cell e6]; rfl, by rw [blk_cell e6]; rfl, by rw [blk_cell e6]; rfl⟩, ⟨by rw [blk_cell e7]; rfl, by rw [blk_cell e7]; rfl, by rw [blk_cell e7]; rfl⟩,
  ⟨blk_frozen e6 _, blk_frozen e6 _, blk_frozen e6 _⟩, blk_frozen e7 _, blk_frozen e7 _, blk_frozen e7 _⟩
theorem RdAt.num {w0 wr : World} {R k n c : Nat} {neg p : Bool} {s a b sg l ex : List UInt8} {A : Option Addr} {x : Int} (h : RdAt w0 R neg s k a b p A n c wr) (hl : l = sg ++ s) (hs : SgnOk sg neg) (hd : s.drop k = ex) (hx : ExOk ex x) (hne : a.length + b.length ≠ 0) :
 NumText l neg (a ++ b) (x - b.length) := by
 obtain ⟨e1, e2, e3, e4, e5, e6, e7, e8⟩ := h;refine ⟨sg, a, dotOf p, b, ex, x, ?_, hs, e2, e3, dotOk_of e4, ?_, hx, rfl, rfl⟩;· rw [hl, ← e1, ← hd, List.take_append_drop]
 · intro e;have := congrArg List.length e;rw [List.length_append, List.length_nil] at this;omega
theorem exOk_of {c : UInt8} {t : List UInt8} {x : Int} (hc : c = 101 ∨ c = 69) (h : ExTail t x) : ExOk (c :: t) x := by
 obtain ⟨sg, n, ds, rfl, h1, h2, h3, h4, h5⟩ := h;exact .inr ⟨c, sg, n, ds, rfl, hc, h1, h2, h3, h4, h5⟩
end Go.Proofs.YteokhhepnoelhaaGreatDoor
