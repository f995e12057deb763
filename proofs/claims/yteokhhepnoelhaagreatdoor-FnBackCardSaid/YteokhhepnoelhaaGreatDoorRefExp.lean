/-
  The reference's exponent: what it answers, whatever the value's slice is.
-/
import Derived.Test.YteokhhepnoelhaaGreatDoorPlainReads
set_option linter.unusedVariables false
set_option linter.unusedSimpArgs false
namespace Go.Proofs.YteokhhepnoelhaaGreatDoor
open Go.RowKit

/-- A text that is an exponent: a sign or none, one to four figures. -/
def ExTail (l : List UInt8) (a : Int) : Prop :=
  ∃ (sg : List UInt8) (n : Bool) (ds : List UInt8), l = sg ++ ds ∧ SgnOk sg n ∧ Digs ds ∧ ds ≠ [] ∧ ds.length ≤ 4 ∧ a = if n = true then -(decVal ds : Int) else (decVal ds : Int)
def ExpEnd (w : World) (neg0 : Bool) (u : Value) (e0 : Int) (l : List UInt8) (e : Ending) (w' : World) : Prop :=
  Fr NoB w w' ∧ ∃ (x : Int) (ok : Bool), e = .returned (.tuple #[.agg #[.bool neg0, u, .int .i64 x], .bool ok]) ∧ (ok = true → ∃ a, ExTail l a ∧ x = e0 + a)
theorem expEnd_no {w w' : World} {neg0 : Bool} {u : Value} {e0 : Int} {l : List UInt8} (h : Fr NoB w w') : ExpEnd w neg0 u e0 l (.returned (.tuple #[.agg #[.bool neg0, u, .int .i64 e0], .bool false])) w' :=
  ⟨h, e0, false, rfl, fun h => by cases h⟩
theorem digs_snoc {l : List UInt8} {k : Nat} {b : UInt8} (h : Digs (l.take k)) (hb : l[k]? = some b) (hd : 48 ≤ b.toNat ∧ b.toNat ≤ 57) : Digs (l.take (k + 1)) := by
  intro c hc
  rw [List.take_add_one, hb] at hc
  simp only [Option.toList_some, List.mem_append, List.mem_singleton] at hc
  rcases hc with hc | rfl
  · exact h c hc
  · exact hd

set_option maxRecDepth 100000 in
set_option maxHeartbeats 4000000 in
theorem specExponent_minus (neg0 : Bool) (A : Option Addr) (n c : Nat) (e0 : Int) (l ds : List UInt8) (w : World) (he0 : -1000 ≤ e0) (he0' : e0 ≤ 1000) (hl : l.length ≤ 100) (hl1 : l = 45 :: ds) :
    Calls Tryz.prog 22 #[.agg #[.bool neg0, .slice A n c, .int .i64 e0], .string ⟨l.toArray⟩] w (ExpEnd w neg0 (.slice A n c) e0 l) := by
  have HX : Hid (Digs ds → ds.length ≠ 0 → ¬ 4 < ds.length → ExTail l (if true = true then -(decVal ds : Int) else (decVal ds : Int))) := hid (fun h h0 h4 => ⟨[45], true, ds, hl1, .inr (.inr ⟨rfl, rfl⟩), h, fun e => h0 (by rw [e]; rfl), by omega, rfl⟩)
  have hlen : l.length = ds.length + 1 := by rw [hl1]; rfl
  have hpos : (0 : Int) < l.length := by omega
  have hlt0 : 0 < (ByteArray.mk l.toArray).size := by rw [str_size]; omega
  have hg := str_get l 0 45 (by rw [hl1]; rfl) hlt0
  have hdr : (ByteArray.mk l.toArray).extract 1 l.length = ⟨ds.toArray⟩ := by rw [str_drop, hl1]; rfl
  have hz := str_size l
  have hz2 := str_size ds
  have HLEN := hid hlen
  clear hl1 hlen
  by_cases d0 : ds.length = 0
  · have d0z : ((ds.length : Int) == 0) = true := by simp [d0]
    have hds0 : (ds.length : Int) = 0 := by omega
    go_enter Tryz.func22, Tryz.ntmps22
    go_wp2_with fail
    exact bodyPost_ret (v := .tuple #[.agg #[.bool neg0, .slice A n c, .int .i64 e0], .bool false]) (by simp [results, Tryz.results22, go_sem]) rfl (expEnd_no (((Fr.refl _ _).alloc _).alloc _))
  by_cases d4 : 4 < ds.length
  · have d0z : ((ds.length : Int) == 0) = false := beq_eq_false_iff_ne.2 (by omega)
    have d4z : (4 : Int) < (ds.length : Int) := by omega
    go_enter Tryz.func22, Tryz.ntmps22
    go_wp2_with fail
    exact bodyPost_ret (v := .tuple #[.agg #[.bool neg0, .slice A n c, .int .i64 e0], .bool false]) (by simp [results, Tryz.results22, go_sem]) rfl (expEnd_no (((Fr.refl _ _).alloc _).alloc _))
  have d0z : ((ds.length : Int) == 0) = false := beq_eq_false_iff_ne.2 (by omega)
  have d4z : (ds.length : Int) ≤ 4 := by omega
  go_enter Tryz.func22, Tryz.ntmps22
  go_wp2_with fail
  have hF : Fr NoB w ((w.alloc (.cells #[.bool neg0, .slice A n c, .int .i64 e0] 25)).alloc (.cells #[.bool false, .slice none 0 0, .int .i64 0] 25)) := ((Fr.refl _ _).alloc _).alloc _
  have HF := hid hF
  clear hF
  go_loopw [7, 41] (fun ev i wr => ∃ k : Nat, k ≤ ds.length ∧ wr = (w.alloc (.cells #[.bool neg0, .slice A n c, .int .i64 e0] 25)).alloc (.cells #[.bool false, .slice none 0 0, .int .i64 0] 25) ∧ i = .int .i64 k ∧ ev = .int .i64 (decVal (ds.take k)) ∧ Hid (Digs (ds.take k))) (fun _ i _ => ds.length - (intOf i).toNat)
  case atStart => exact ⟨0, Nat.zero_le _, rfl, rfl, rfl, hid (by intro b hb; simp at hb)⟩
  case round =>
    obtain ⟨k, hk, rfl, rfl, rfl, hD⟩ := hrel
    have hdv := decVal_small hD.out (by rw [List.length_take]; omega)
    by_cases hlt : k < ds.length
    · obtain ⟨b, hb⟩ : ∃ b, ds[k]? = some b := ⟨ds[k], List.getElem?_eq_getElem hlt⟩
      have hlt' : k < (ByteArray.mk ds.toArray).size := by rw [str_size]; exact hlt
      have hgk := str_get ds k b hb hlt'
      have hlz : (k : Int) < (ds.length : Int) := by omega
      have hzd := str_size ds
      by_cases hdig : 48 ≤ b.toNat ∧ b.toNat ≤ 57
      · have hDn := hid (digs_snoc hD.out hb hdig)
        have hDV := hid (decVal_take ds k b hb)
        have q1 : (48 : Int) ≤ b.toNat := by omega
        have q2 : (b.toNat : Int) ≤ 57 := by omega
        have q3 : ¬ (b.toNat : Int) < 48 := by omega
        have q4 : ¬ (57 : Int) < b.toNat := by omega
        clear hb hD
        generalize decVal (ds.take k) = dv at *
        go_wp2_with fail
        exact ⟨⟨k + 1, by omega, trivial, by go_num, by rw [hDV.out]; exact congrArg (Value.int .i64) (by omega), hDn⟩, by simp [intOf]; omega⟩
      · clear hb
        have hcase : (b.toNat : Int) < 48 ∨ (57 : Int) < b.toNat := by omega
        rcases hcase with h | h
        · clear hdig
          go_wp2_with fail
          exact bodyPost_ret (v := .tuple #[.agg #[.bool neg0, .slice A n c, .int .i64 e0], .bool false]) (by simp [results, Tryz.results22, go_sem]) rfl (expEnd_no (((Fr.refl _ _).alloc _).alloc _))
        · have h' : ¬ (b.toNat : Int) < 48 := by omega
          clear hdig
          go_wp2_with fail
          exact bodyPost_ret (v := .tuple #[.agg #[.bool neg0, .slice A n c, .int .i64 e0], .bool false]) (by simp [results, Tryz.results22, go_sem]) rfl (expEnd_no (((Fr.refl _ _).alloc _).alloc _))
    · obtain rfl : k = ds.length := by omega
      have hzd := str_size ds
      rw [List.take_length] at hD hdv ⊢
      have hge : ¬ ((ds.length : Int) < (ds.length : Int)) := by omega
      have hX := hid (HX.out hD.out d0 d4)
      clear hk hlt hD
      generalize decVal ds = dv at *
      go_wp2_with fail
      exact bodyPost_ret (v := .tuple #[.agg #[.bool neg0, .slice A n c, .int .i64 (e0 + -(dv : Int))], .bool true]) (by simp [results, Tryz.results22, go_sem]) rfl ⟨(((Fr.refl _ _).alloc _).alloc _), _, true, rfl, fun _ => ⟨_, hX.out, rfl⟩⟩

set_option maxRecDepth 100000 in
set_option maxHeartbeats 4000000 in
theorem specExponent_plus (neg0 : Bool) (A : Option Addr) (n c : Nat) (e0 : Int) (l ds : List UInt8) (w : World) (he0 : -1000 ≤ e0) (he0' : e0 ≤ 1000) (hl : l.length ≤ 100) (hl1 : l = 43 :: ds) :
    Calls Tryz.prog 22 #[.agg #[.bool neg0, .slice A n c, .int .i64 e0], .string ⟨l.toArray⟩] w (ExpEnd w neg0 (.slice A n c) e0 l) := by
  have HX : Hid (Digs ds → ds.length ≠ 0 → ¬ 4 < ds.length → ExTail l (if false = true then -(decVal ds : Int) else (decVal ds : Int))) := hid (fun h h0 h4 => ⟨[43], false, ds, hl1, .inr (.inl ⟨rfl, rfl⟩), h, fun e => h0 (by rw [e]; rfl), by omega, rfl⟩)
  have hlen : l.length = ds.length + 1 := by rw [hl1]; rfl
  have hpos : (0 : Int) < l.length := by omega
  have hlt0 : 0 < (ByteArray.mk l.toArray).size := by rw [str_size]; omega
  have hg := str_get l 0 43 (by rw [hl1]; rfl) hlt0
  have hdr : (ByteArray.mk l.toArray).extract 1 l.length = ⟨ds.toArray⟩ := by rw [str_drop, hl1]; rfl
  have hz := str_size l
  have hz2 := str_size ds
  have HLEN := hid hlen
  clear hl1 hlen
  by_cases d0 : ds.length = 0
  · have d0z : ((ds.length : Int) == 0) = true := by simp [d0]
    have hds0 : (ds.length : Int) = 0 := by omega
    go_enter Tryz.func22, Tryz.ntmps22
    go_wp2_with fail
    exact bodyPost_ret (v := .tuple #[.agg #[.bool neg0, .slice A n c, .int .i64 e0], .bool false]) (by simp [results, Tryz.results22, go_sem]) rfl (expEnd_no (((Fr.refl _ _).alloc _).alloc _))
  by_cases d4 : 4 < ds.length
  · have d0z : ((ds.length : Int) == 0) = false := beq_eq_false_iff_ne.2 (by omega)
    have d4z : (4 : Int) < (ds.length : Int) := by omega
    go_enter Tryz.func22, Tryz.ntmps22
    go_wp2_with fail
    exact bodyPost_ret (v := .tuple #[.agg #[.bool neg0, .slice A n c, .int .i64 e0], .bool false]) (by simp [results, Tryz.results22, go_sem]) rfl (expEnd_no (((Fr.refl _ _).alloc _).alloc _))
  have d0z : ((ds.length : Int) == 0) = false := beq_eq_false_iff_ne.2 (by omega)
  have d4z : (ds.length : Int) ≤ 4 := by omega
  go_enter Tryz.func22, Tryz.ntmps22
  go_wp2_with fail
  have hF : Fr NoB w ((w.alloc (.cells #[.bool neg0, .slice A n c, .int .i64 e0] 25)).alloc (.cells #[.bool false, .slice none 0 0, .int .i64 0] 25)) := ((Fr.refl _ _).alloc _).alloc _
  have HF := hid hF
  clear hF
  go_loopw [7, 41] (fun ev i wr => ∃ k : Nat, k ≤ ds.length ∧ wr = (w.alloc (.cells #[.bool neg0, .slice A n c, .int .i64 e0] 25)).alloc (.cells #[.bool false, .slice none 0 0, .int .i64 0] 25) ∧ i = .int .i64 k ∧ ev = .int .i64 (decVal (ds.take k)) ∧ Hid (Digs (ds.take k))) (fun _ i _ => ds.length - (intOf i).toNat)
  case atStart => exact ⟨0, Nat.zero_le _, rfl, rfl, rfl, hid (by intro b hb; simp at hb)⟩
  case round =>
    obtain ⟨k, hk, rfl, rfl, rfl, hD⟩ := hrel
    have hdv := decVal_small hD.out (by rw [List.length_take]; omega)
    by_cases hlt : k < ds.length
    · obtain ⟨b, hb⟩ : ∃ b, ds[k]? = some b := ⟨ds[k], List.getElem?_eq_getElem hlt⟩
      have hlt' : k < (ByteArray.mk ds.toArray).size := by rw [str_size]; exact hlt
      have hgk := str_get ds k b hb hlt'
      have hlz : (k : Int) < (ds.length : Int) := by omega
      have hzd := str_size ds
      by_cases hdig : 48 ≤ b.toNat ∧ b.toNat ≤ 57
      · have hDn := hid (digs_snoc hD.out hb hdig)
        have hDV := hid (decVal_take ds k b hb)
        have q1 : (48 : Int) ≤ b.toNat := by omega
        have q2 : (b.toNat : Int) ≤ 57 := by omega
        have q3 : ¬ (b.toNat : Int) < 48 := by omega
        have q4 : ¬ (57 : Int) < b.toNat := by omega
        clear hb hD
        generalize decVal (ds.take k) = dv at *
        go_wp2_with fail
        exact ⟨⟨k + 1, by omega, trivial, by go_num, by rw [hDV.out]; exact congrArg (Value.int .i64) (by omega), hDn⟩, by simp [intOf]; omega⟩
      · clear hb
        have hcase : (b.toNat : Int) < 48 ∨ (57 : Int) < b.toNat := by omega
        rcases hcase with h | h
        · clear hdig
          go_wp2_with fail
          exact bodyPost_ret (v := .tuple #[.agg #[.bool neg0, .slice A n c, .int .i64 e0], .bool false]) (by simp [results, Tryz.results22, go_sem]) rfl (expEnd_no (((Fr.refl _ _).alloc _).alloc _))
        · have h' : ¬ (b.toNat : Int) < 48 := by omega
          clear hdig
          go_wp2_with fail
          exact bodyPost_ret (v := .tuple #[.agg #[.bool neg0, .slice A n c, .int .i64 e0], .bool false]) (by simp [results, Tryz.results22, go_sem]) rfl (expEnd_no (((Fr.refl _ _).alloc _).alloc _))
    · obtain rfl : k = ds.length := by omega
      have hzd := str_size ds
      rw [List.take_length] at hD hdv ⊢
      have hge : ¬ ((ds.length : Int) < (ds.length : Int)) := by omega
      have hX := hid (HX.out hD.out d0 d4)
      clear hk hlt hD
      generalize decVal ds = dv at *
      go_wp2_with fail
      exact bodyPost_ret (v := .tuple #[.agg #[.bool neg0, .slice A n c, .int .i64 (e0 + (dv : Int))], .bool true]) (by simp [results, Tryz.results22, go_sem]) rfl ⟨(((Fr.refl _ _).alloc _).alloc _), _, true, rfl, fun _ => ⟨_, hX.out, rfl⟩⟩

set_option maxRecDepth 100000 in
set_option maxHeartbeats 4000000 in
theorem specExponent_none (neg0 : Bool) (A : Option Addr) (n c : Nat) (e0 : Int) (l ds : List UInt8) (w : World) (he0 : -1000 ≤ e0) (he0' : e0 ≤ 1000) (hl : l.length ≤ 100) (x : UInt8) (t : List UInt8) (hl1 : l = ds) (hl2 : l = x :: t) (hx1 : x ≠ 45) (hx2 : x ≠ 43) :
    Calls Tryz.prog 22 #[.agg #[.bool neg0, .slice A n c, .int .i64 e0], .string ⟨l.toArray⟩] w (ExpEnd w neg0 (.slice A n c) e0 l) := by
  subst hl1
  have HX : Hid (Digs l → l.length ≠ 0 → ¬ 4 < l.length → ExTail l (if false = true then -(decVal l : Int) else (decVal l : Int))) := hid (fun h h0 h4 => ⟨[], false, l, rfl, .inl ⟨rfl, rfl⟩, h, fun e => h0 (by rw [e]; rfl), by omega, rfl⟩)
  have hpos : (0 : Int) < l.length := by rw [hl2]; simp only [List.length_cons]; omega
  have hlt0 : 0 < (ByteArray.mk l.toArray).size := by rw [str_size]; omega
  have hg := str_get l 0 x (by rw [hl2]; rfl) hlt0
  have hz := str_size l
  have q45 : ((x.toNat : Int) == 45) = false := by rw [beq_eq_false_iff_ne]; intro h; exact hx1 (UInt8.toNat_inj.1 (by show x.toNat = 45; omega))
  have q43 : ((x.toNat : Int) == 43) = false := by rw [beq_eq_false_iff_ne]; intro h; exact hx2 (UInt8.toNat_inj.1 (by show x.toNat = 43; omega))
  clear hl2 hx1 hx2
  by_cases d0 : l.length = 0
  · exfalso; omega
  by_cases d4 : 4 < l.length
  · have d0z : ((l.length : Int) == 0) = false := beq_eq_false_iff_ne.2 (by omega)
    have d4z : (4 : Int) < (l.length : Int) := by omega
    go_enter Tryz.func22, Tryz.ntmps22
    go_wp2_with fail
    exact bodyPost_ret (v := .tuple #[.agg #[.bool neg0, .slice A n c, .int .i64 e0], .bool false]) (by simp [results, Tryz.results22, go_sem]) rfl (expEnd_no (((Fr.refl _ _).alloc _).alloc _))
  have d0z : ((l.length : Int) == 0) = false := beq_eq_false_iff_ne.2 (by omega)
  have d4z : (l.length : Int) ≤ 4 := by omega
  go_enter Tryz.func22, Tryz.ntmps22
  go_wp2_with fail
  have hF : Fr NoB w ((w.alloc (.cells #[.bool neg0, .slice A n c, .int .i64 e0] 25)).alloc (.cells #[.bool false, .slice none 0 0, .int .i64 0] 25)) := ((Fr.refl _ _).alloc _).alloc _
  have HF := hid hF
  clear hF
  go_loopw [7, 41] (fun ev i wr => ∃ k : Nat, k ≤ l.length ∧ wr = (w.alloc (.cells #[.bool neg0, .slice A n c, .int .i64 e0] 25)).alloc (.cells #[.bool false, .slice none 0 0, .int .i64 0] 25) ∧ i = .int .i64 k ∧ ev = .int .i64 (decVal (l.take k)) ∧ Hid (Digs (l.take k))) (fun _ i _ => l.length - (intOf i).toNat)
  case atStart => exact ⟨0, Nat.zero_le _, rfl, rfl, rfl, hid (by intro b hb; simp at hb)⟩
  case round =>
    obtain ⟨k, hk, rfl, rfl, rfl, hD⟩ := hrel
    have hdv := decVal_small hD.out (by rw [List.length_take]; omega)
    by_cases hlt : k < l.length
    · obtain ⟨b, hb⟩ : ∃ b, l[k]? = some b := ⟨l[k], List.getElem?_eq_getElem hlt⟩
      have hlt' : k < (ByteArray.mk l.toArray).size := by rw [str_size]; exact hlt
      have hgk := str_get l k b hb hlt'
      have hlz : (k : Int) < (l.length : Int) := by omega
      have hzd := str_size l
      by_cases hdig : 48 ≤ b.toNat ∧ b.toNat ≤ 57
      · have hDn := hid (digs_snoc hD.out hb hdig)
        have hDV := hid (decVal_take l k b hb)
        have q1 : (48 : Int) ≤ b.toNat := by omega
        have q2 : (b.toNat : Int) ≤ 57 := by omega
        have q3 : ¬ (b.toNat : Int) < 48 := by omega
        have q4 : ¬ (57 : Int) < b.toNat := by omega
        clear hb hD
        generalize decVal (l.take k) = dv at *
        go_wp2_with fail
        exact ⟨⟨k + 1, by omega, trivial, by go_num, by rw [hDV.out]; exact congrArg (Value.int .i64) (by omega), hDn⟩, by simp [intOf]; omega⟩
      · clear hb
        have hcase : (b.toNat : Int) < 48 ∨ (57 : Int) < b.toNat := by omega
        rcases hcase with h | h
        · clear hdig
          go_wp2_with fail
          exact bodyPost_ret (v := .tuple #[.agg #[.bool neg0, .slice A n c, .int .i64 e0], .bool false]) (by simp [results, Tryz.results22, go_sem]) rfl (expEnd_no (((Fr.refl _ _).alloc _).alloc _))
        · have h' : ¬ (b.toNat : Int) < 48 := by omega
          clear hdig
          go_wp2_with fail
          exact bodyPost_ret (v := .tuple #[.agg #[.bool neg0, .slice A n c, .int .i64 e0], .bool false]) (by simp [results, Tryz.results22, go_sem]) rfl (expEnd_no (((Fr.refl _ _).alloc _).alloc _))
    · obtain rfl : k = l.length := by omega
      have hzd := str_size l
      rw [List.take_length] at hD hdv ⊢
      have hge : ¬ ((l.length : Int) < (l.length : Int)) := by omega
      have hX := hid (HX.out hD.out d0 d4)
      clear hk hlt hD
      generalize decVal l = dv at *
      go_wp2_with fail
      exact bodyPost_ret (v := .tuple #[.agg #[.bool neg0, .slice A n c, .int .i64 (e0 + (dv : Int))], .bool true]) (by simp [results, Tryz.results22, go_sem]) rfl ⟨(((Fr.refl _ _).alloc _).alloc _), _, true, rfl, fun _ => ⟨_, hX.out, rfl⟩⟩

set_option maxRecDepth 100000 in
set_option maxHeartbeats 4000000 in
theorem specExponent_empty (neg0 : Bool) (A : Option Addr) (n c : Nat) (e0 : Int) (w : World) :
    Calls Tryz.prog 22 #[.agg #[.bool neg0, .slice A n c, .int .i64 e0], .string ⟨([] : List UInt8).toArray⟩] w (ExpEnd w neg0 (.slice A n c) e0 []) := by
  go_enter Tryz.func22, Tryz.ntmps22
  go_wp2_with fail
  exact bodyPost_ret (v := .tuple #[.agg #[.bool neg0, .slice A n c, .int .i64 e0], .bool false]) (by simp [results, Tryz.results22, go_sem]) rfl (expEnd_no (((Fr.refl _ _).alloc _).alloc _))

theorem specExponent (neg0 : Bool) (A : Option Addr) (n c : Nat) (e0 : Int) (l : List UInt8) (w : World) (he0 : -1000 ≤ e0) (he0' : e0 ≤ 1000) (hl : l.length ≤ 100) :
    Calls Tryz.prog 22 #[.agg #[.bool neg0, .slice A n c, .int .i64 e0], .string ⟨l.toArray⟩] w (ExpEnd w neg0 (.slice A n c) e0 l) := by
  cases h : l with
  | nil => exact specExponent_empty neg0 A n c e0 w
  | cons x t =>
    rw [← h]
    by_cases h1 : x = 45
    · exact specExponent_minus neg0 A n c e0 l t w he0 he0' hl (by rw [h, h1])
    · by_cases h2 : x = 43
      · exact specExponent_plus neg0 A n c e0 l t w he0 he0' hl (by rw [h, h2])
      · exact specExponent_none neg0 A n c e0 l l w he0 he0' hl x t rfl h h1 h2
end Go.Proofs.YteokhhepnoelhaaGreatDoor
