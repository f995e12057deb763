/-
  NumDigits at every coefficient below 300 bits: how many digits it has.
-/
import Derived.Test.YteokhhepnoelhaaGreatDoorBkC
import Derived.Test.YteokhhepnoelhaaGreatDoorSpecReadA
import Derived.Test.YteokhhepnoelhaaGreatDoorPlainReads
import Derived.Test.YteokhhepnoelhaaGreatDoorPrefix
import Derived.Test.YteokhhepnoelhaaGreatDoorPtr
import Derived.Test.YteokhhepnoelhaaGreatDoorSpec1
import Derived.Test.YteokhhepnoelhaaGreatDoorPlainFails
import Derived.Test.YteokhhepnoelhaaGreatDoorBkA
import Derived.Test.YteokhhepnoelhaaGreatDoorAlias

set_option linter.unusedVariables false
set_option linter.unusedSimpArgs false
namespace Go.Proofs.YteokhhepnoelhaaGreatDoor
open Go.RowKit

theorem dig_small (d : Nat) (h : d < 10) : (UInt8.ofNat (48 + d)).toNat = 48 + d := by
  rw [UInt8.toNat_ofNat']; exact Nat.mod_eq_of_lt (by omega)
theorem digs_dec (V : Nat) : Digs (Lib.decDigits V) ∧ decVal (Lib.decDigits V) = V := by
  induction V using Nat.strongRecOn with
  | _ V ih =>
    rw [Lib.decDigits]
    split
    · rename_i h
      have := dig_small V h
      refine ⟨fun b hb => ?_, ?_⟩
      · rw [List.mem_singleton] at hb; subst hb; omega
      · simp only [decVal, List.foldl_cons, List.foldl_nil]; omega
    · rename_i h
      have h2 := ih (V / 10) (by omega)
      have := dig_small (V % 10) (by omega)
      refine ⟨fun b hb => ?_, ?_⟩
      · rw [List.mem_append] at hb
        rcases hb with hb | hb
        · exact h2.1 b hb
        · rw [List.mem_singleton] at hb; subst hb; omega
      · rw [decVal_snoc, h2.2]; omega
theorem dec_ne (V : Nat) : Lib.decDigits V ≠ [] := by
  obtain ⟨d, h⟩ := decDigits_first V
  intro h2; rw [h2] at h; cases h
theorem dec_len4 (n : Nat) (h : n < 1000) : (Lib.decDigits n).length ≤ 4 := by
  rw [Lib.decDigits_length]
  by_cases h0 : n = 0
  · subst h0; rw [Lib.nDigits_small (by omega)]; omega
  · have := nDigits_le h0 (show n < 10 ^ 3 by omega); omega
theorem Digs.take {l : List UInt8} (h : Digs l) (k : Nat) : Digs (l.take k) := fun b hb => h b (List.mem_of_mem_take hb)
theorem Digs.drop {l : List UInt8} (h : Digs l) (k : Nat) : Digs (l.drop k) := fun b hb => h b (List.mem_of_mem_drop hb)
theorem digs_zeros (k : Nat) : Digs (List.replicate k 48) := fun b hb => by rw [List.eq_of_mem_replicate hb]; decide
theorem decVal_zeros (k : Nat) (l : List UInt8) : decVal (List.replicate k 48 ++ l) = decVal l := by
  induction k with
  | zero => rfl
  | succ k ih => rw [List.replicate_succ]; exact ih
def sgnL (neg : Bool) : List UInt8 := if neg = true then [45] else []
theorem sgnL_ok (neg : Bool) : SgnOk (sgnL neg) neg := by cases neg <;> simp [SgnOk, sgnL]
theorem sgnL_len (neg : Bool) : (sgnL neg).length ≤ 1 := by cases neg <;> simp [sgnL]

theorem eText_num (ds : List UInt8) (hd : Digs ds) (hne : ds ≠ []) (c : UInt8) (hc : c = 101 ∨ c = 69) (neg : Bool) (e0 adj : Int) (ha : adj = e0 + ds.length - 1) (h1 : adj.natAbs < 1000) : NumText (sgnL neg ++ eText ds c adj) neg ds e0 := by
  have hl : 1 ≤ ds.length := by have := List.length_pos_iff.2 hne; omega
  refine ⟨sgnL neg, ds.take 1, if 1 < ds.length then [46] else [], ds.drop 1, c :: ([sgnB adj] ++ Lib.decDigits adj.natAbs), adj, ?_, sgnL_ok neg, hd.take 1, hd.drop 1, ?_, ?_, ?_, (List.take_append_drop 1 ds).symm, ?_⟩
  · unfold eText
    congr 1
    by_cases h : 1 < ds.length
    · simp [h]
    · have : ds.drop 1 = [] := List.drop_eq_nil_of_le (by omega)
      simp [h, this]
  · by_cases h : 1 < ds.length
    · rw [if_pos h]; exact .inl rfl
    · rw [if_neg h]; exact .inr ⟨rfl, List.drop_eq_nil_of_le (by omega)⟩
  · rw [List.take_append_drop]; exact hne
  · refine .inr ⟨c, [sgnB adj], decide (adj < 0), Lib.decDigits adj.natAbs, rfl, hc, ?_, (digs_dec _).1, dec_ne _, dec_len4 _ h1, ?_⟩
    · unfold sgnB SgnOk
      by_cases h : adj < 0 <;> simp [h]
    · rw [(digs_dec _).2]
      by_cases h : adj < 0
      · simp only [h, decide_true, if_true]; omega
      · simp only [h, decide_false]; simp; omega
  · rw [List.length_drop]; omega

theorem fText_num (ds : List UInt8) (hd : Digs ds) (hne : ds ≠ []) (neg : Bool) (e0 : Int) (he : e0 ≤ 0) : ∃ ds', NumText (sgnL neg ++ fText ds e0) neg ds' e0 ∧ decVal ds' = decVal ds := by
  unfold fText
  split
  · rename_i h
    subst h
    exact ⟨ds, ⟨sgnL neg, ds, [], [], [], 0, by simp, sgnL_ok neg, hd, (fun b hb => by cases hb), .inr ⟨rfl, rfl⟩, by simpa using hne, .inl ⟨rfl, rfl⟩, by simp, by simp⟩, rfl⟩
  · split
    · rename_i h0 h
      refine ⟨[48] ++ (List.replicate (-e0 - ds.length).toNat 48 ++ ds), ⟨sgnL neg, [48], [46], List.replicate (-e0 - ds.length).toNat 48 ++ ds, [], 0, by simp, sgnL_ok neg, (fun b hb => by rw [List.mem_singleton] at hb; subst hb; decide), ?_, .inl rfl, by simp, .inl ⟨rfl, rfl⟩, rfl, ?_⟩, ?_⟩
      · intro b hb
        rw [List.mem_append] at hb
        rcases hb with hb | hb
        · exact digs_zeros _ b hb
        · exact hd b hb
      · rw [List.length_append, List.length_replicate]; omega
      · rw [← decVal_zeros (-e0 - ds.length).toNat ds]; rfl
    · rename_i h0 h
      refine ⟨ds, ⟨sgnL neg, ds.take (ds.length + e0).toNat, [46], ds.drop (ds.length + e0).toNat, [], 0, by simp, sgnL_ok neg, hd.take _, hd.drop _, .inl rfl, ?_, .inl ⟨rfl, rfl⟩, (List.take_append_drop _ ds).symm, ?_⟩, rfl⟩
      · rw [List.take_append_drop]; exact hne
      · rw [List.length_drop]; omega

theorem eText_len (ds : List UInt8) (c : UInt8) (adj : Int) (h : adj.natAbs < 1000) : (eText ds c adj).length ≤ ds.length + 7 := by
  have := dec_len4 _ h
  unfold eText
  simp only [List.length_append, List.length_take, List.length_cons, List.length_nil]
  split <;> simp only [List.length_cons, List.length_drop, List.length_nil] <;> omega
theorem fText_len (ds : List UInt8) (e0 : Int) (he : -100 ≤ e0) (he' : e0 ≤ 0) : (fText ds e0).length ≤ ds.length + 102 := by
  unfold fText
  split
  · omega
  · split
    · simp only [List.length_append, List.length_replicate, List.length_cons, List.length_nil]; omega
    · simp only [List.length_append, List.length_take, List.length_drop, List.length_cons, List.length_nil]; omega

theorem decText_num (c : UInt8) (hc : FormC c) (neg : Bool) (V : Nat) (e0 : Int) (hb : blen V ≤ 250) (he : -100 ≤ e0) (he' : e0 ≤ 100) :
    (∃ ds, NumText (decText c neg V e0) neg ds e0 ∧ decVal ds = V) ∧ (decText c neg V e0).length ≤ 250 := by
  have hl := decDigits_len200 hb
  have hl1 : 1 ≤ (Lib.decDigits V).length := by have := List.length_pos_iff.2 (dec_ne V); omega
  have hE : ∀ c : UInt8, c = 101 ∨ c = 69 → (∃ ds, NumText (sgnL neg ++ eText (Lib.decDigits V) c (e0 + (Lib.decDigits V).length - 1)) neg ds e0 ∧ decVal ds = V) ∧ (sgnL neg ++ eText (Lib.decDigits V) c (e0 + (Lib.decDigits V).length - 1)).length ≤ 250 := by
    intro c hc
    have ha : (e0 + (Lib.decDigits V).length - 1).natAbs < 1000 := by omega
    refine ⟨⟨_, eText_num _ (digs_dec V).1 (dec_ne V) c hc neg e0 _ rfl ha, (digs_dec V).2⟩, ?_⟩
    have h1 := eText_len (Lib.decDigits V) c _ ha
    have h2 := sgnL_len neg
    rw [List.length_append]; omega
  by_cases h : c = 101 ∨ c = 69
  · have e : decText c neg V e0 = sgnL neg ++ eText (Lib.decDigits V) c (e0 + (Lib.decDigits V).length - 1) := by unfold decText sgnL; rw [if_pos h]
    rw [e]
    exact hE c h
  · have hc2 : c = 103 ∨ c = 71 := by rcases hc with rfl | rfl | rfl | rfl <;> simp at h ⊢
    by_cases hF : e0 ≤ 0 ∧ -6 ≤ e0 + ((if V = 0 ∧ e0 < 0 then ((Lib.decDigits V).length : Int) - e0 else (Lib.decDigits V).length) - 1)
    · have e : decText c neg V e0 = sgnL neg ++ fText (Lib.decDigits V) e0 := decText_gF hc2 neg V e0 hF
      rw [e]
      obtain ⟨ds, h1, h2⟩ := fText_num (Lib.decDigits V) (digs_dec V).1 (dec_ne V) neg e0 hF.1
      refine ⟨⟨ds, h1, h2.trans (digs_dec V).2⟩, ?_⟩
      have h3 := fText_len (Lib.decDigits V) e0 he hF.1
      have h4 := sgnL_len neg
      rw [List.length_append]; omega
    · have e : decText c neg V e0 = sgnL neg ++ eText (Lib.decDigits V) (if c = 103 then 101 else 69) (e0 + (Lib.decDigits V).length - 1) := decText_gE hc2 neg V e0 hF
      rw [e]
      exact hE _ (by split <;> simp)
end Go.Proofs.YteokhhepnoelhaaGreatDoor

set_option linter.unusedVariables false
set_option linter.unusedSimpArgs false
namespace Go.Proofs.YteokhhepnoelhaaGreatDoor
open Go.RowKit

/-- A text that is a number, as setString sees it. -/
theorem NumText.low {l ds : List UInt8} {neg : Bool} {e : Int} (h : NumText l neg ds e) (hl : l.length ≤ 250) : NumLow l neg ds e ∧ Digs ds ∧ ds.length ≤ l.length := by
  obtain ⟨sg, a, dot, b, ex, x, h1, h2, h3, h4, h5, h6, h7, rfl, rfl⟩ := h
  have hlen := congrArg List.length h1
  simp only [List.length_append] at hlen
  refine ⟨numLow h1 h2 h3 h4 h5 h6 h7 (by omega), fun c hc => ?_, by simp only [List.length_append]; omega⟩
  rw [List.mem_append] at hc
  exact hc.elim (h3 c) (h4 c)
end Go.Proofs.YteokhhepnoelhaaGreatDoor

set_option linter.unusedVariables false
set_option linter.unusedSimpArgs false
namespace Go.Proofs.YteokhhepnoelhaaGreatDoor
open Go.RowKit

/-- A Context in memory that is only read. -/
structure CtxAt (w : World) (c : Nat) (prec maxE minE traps : Int) (r : ByteArray) : Prop where
  c0 : w.cell? ⟨c, 0, none⟩ = some (.int .u32 prec)
  c1 : w.cell? ⟨c, 1, none⟩ = some (.int .i32 maxE)
  c2 : w.cell? ⟨c, 2, none⟩ = some (.int .i32 minE)
  c3 : w.cell? ⟨c, 3, none⟩ = some (.int .u32 traps)
  c4 : w.cell? ⟨c, 4, none⟩ = some (.string r)
theorem CtxAt.fr {w w' : World} {S : Nat → Prop} {c : Nat} {prec maxE minE traps : Int} {r : ByteArray} (h : CtxAt w c prec maxE minE traps r) (hF : Fr S w w') (hS : ¬ S c) : CtxAt w' c prec maxE minE traps r :=
  ⟨hF.cell' h.c0 hS, hF.cell' h.c1 hS, hF.cell' h.c2 hS, hF.cell' h.c3 hS, hF.cell' h.c4 hS⟩

set_option maxRecDepth 100000 in
set_option maxHeartbeats 1000000 in
theorem setExponent_none_given (D cb : Nat) (f : Int) (n : Bool) (e0 : Int) (cn : Bool) (Av : Value) (m : Bool) (nd res : Int) (X cap : Nat) (w : World) (hD : DecAt w D f n e0 cn Av m)
    (prec traps : Int) (r : ByteArray) (hC : CtxAt w cb prec 100000 (-100000) traps r) (hnd : 1 ≤ nd) (hnd' : nd ≤ 1000) (hs : -100000 ≤ nd - 1) (hs' : nd - 1 ≤ 100000) (hres : res = 0 ∨ res = 64 ∨ res = 80) :
    Calls Tryz.prog 60 #[.pointer (some ⟨D, 0, none⟩), .pointer (some ⟨cb, 0, none⟩), .int .i64 nd, .int .u32 res, .slice (some ⟨X, 0, none⟩) 0 cap] w
      fun e w' => e = .returned (.int .u32 res) ∧ w' = w.setCell ⟨D, 2, none⟩ (.int .i32 (0)) := by
  obtain ⟨⟨h0, h1, h2, h3, h4, h5⟩, f0, f1, f2, f3, f4, f5⟩ := hD.cells
  have HC := hid hC
  obtain ⟨c0, c1, c2, c3, c4⟩ := hC
  have hnd1 : (nd == -1) = false := by simp; omega
  clear hD h0 h1 h3 h4 h5 f0 f1 f3 f4 f5
  rcases hres with rfl | rfl | rfl
  all_goals
    go_enter Tryz.func60, Tryz.ntmps60
    go_wp2
    go_rounds 3
    go_ret
    exact ⟨rfl, rfl⟩

set_option maxRecDepth 100000 in
set_option maxHeartbeats 1000000 in
theorem setExponent_none_asked (D cb : Nat) (f : Int) (n : Bool) (e0 : Int) (cn : Bool) (Av : Value) (m : Bool) (nd res : Int) (X cap : Nat) (w : World) (hD : DecAt w D f n e0 cn Av m)
    (prec traps : Int) (r : ByteArray) (hC : CtxAt w cb prec 100000 (-100000) traps r) (hnd : 1 ≤ nd) (hnd' : nd ≤ 1000) (hs : -100000 ≤ nd - 1) (hs' : nd - 1 ≤ 100000) (hres : res = 0 ∨ res = 64 ∨ res = 80) (hN : Calls Tryz.prog 88 #[.pointer (some ⟨D, 0, none⟩)] w fun e w' => e = .returned (.int .i64 nd) ∧ Fr NoB w w') :
    Calls Tryz.prog 60 #[.pointer (some ⟨D, 0, none⟩), .pointer (some ⟨cb, 0, none⟩), .int .i64 (-1), .int .u32 res, .slice (some ⟨X, 0, none⟩) 0 cap] w
      fun e w' => e = .returned (.int .u32 res) ∧ ∃ w1, Fr NoB w w1 ∧ w' = w1.setCell ⟨D, 2, none⟩ (.int .i32 (0)) := by
  obtain ⟨⟨h0, h1, h2, h3, h4, h5⟩, f0, f1, f2, f3, f4, f5⟩ := hD.cells
  have HC := hid hC
  obtain ⟨c0, c1, c2, c3, c4⟩ := hC
  have HN := hid hN
  clear hN hD h0 h1 h3 h4 h5 f0 f1 f3 f4 f5
  rcases hres with rfl | rfl | rfl
  all_goals
    go_enter Tryz.func60, Tryz.ntmps60
    go_wp2_with fail
    refine wp_loop_rounds 3 ?_
    repeat any_goals (rw [rounds_succ]; go_wp2_with fail)
    refine HN.out.mono ?_
    rintro e w1 ⟨rfl, hF⟩
    have k2 := hF.cell' h2 (fun h => h); have g2 := hF.frozen' h2 f2 (fun h => h)
    obtain ⟨d0, d1, d2, d3, d4⟩ := HC.out.fr hF (fun h => h)
    have HF := hid hF; clear hF
    clear h2 f2 c0 c1 c2 c3 c4
    go_wp2
    go_ret
    exact ⟨rfl, w1, HF.out, rfl⟩

set_option maxRecDepth 100000 in
set_option maxHeartbeats 1000000 in
theorem setExponent_one_given (D cb : Nat) (f : Int) (n : Bool) (e0 : Int) (cn : Bool) (Av : Value) (m : Bool) (nd res a : Int) (X cap : Nat) (w : World) (hD : DecAt w D f n e0 cn Av m)
    (prec traps : Int) (r : ByteArray) (hC : CtxAt w cb prec 100000 (-100000) traps r) (hX : w.cell? ⟨X, 0, none⟩ = some (.int .i64 a)) (halo : -100000 ≤ a) (hahi : a ≤ 100000) (hnd : 1 ≤ nd) (hnd' : nd ≤ 1000) (hs : -100000 ≤ a + nd - 1) (hs' : a + nd - 1 ≤ 100000) (hres : res = 0 ∨ res = 64 ∨ res = 80) :
    Calls Tryz.prog 60 #[.pointer (some ⟨D, 0, none⟩), .pointer (some ⟨cb, 0, none⟩), .int .i64 nd, .int .u32 res, .slice (some ⟨X, 0, none⟩) 1 cap] w
      fun e w' => e = .returned (.int .u32 res) ∧ w' = w.setCell ⟨D, 2, none⟩ (.int .i32 (a)) := by
  obtain ⟨⟨h0, h1, h2, h3, h4, h5⟩, f0, f1, f2, f3, f4, f5⟩ := hD.cells
  have HC := hid hC
  obtain ⟨c0, c1, c2, c3, c4⟩ := hC
  have hnd1 : (nd == -1) = false := by simp; omega
  clear hD h0 h1 h3 h4 h5 f0 f1 f3 f4 f5
  rcases hres with rfl | rfl | rfl
  all_goals
    go_enter Tryz.func60, Tryz.ntmps60
    go_wp2
    go_rounds 3
    go_ret
    exact ⟨rfl, rfl⟩

set_option maxRecDepth 100000 in
set_option maxHeartbeats 1000000 in
theorem setExponent_one_asked (D cb : Nat) (f : Int) (n : Bool) (e0 : Int) (cn : Bool) (Av : Value) (m : Bool) (nd res a : Int) (X cap : Nat) (w : World) (hD : DecAt w D f n e0 cn Av m)
    (prec traps : Int) (r : ByteArray) (hC : CtxAt w cb prec 100000 (-100000) traps r) (hX : w.cell? ⟨X, 0, none⟩ = some (.int .i64 a)) (halo : -100000 ≤ a) (hahi : a ≤ 100000) (hnd : 1 ≤ nd) (hnd' : nd ≤ 1000) (hs : -100000 ≤ a + nd - 1) (hs' : a + nd - 1 ≤ 100000) (hres : res = 0 ∨ res = 64 ∨ res = 80) (hN : Calls Tryz.prog 88 #[.pointer (some ⟨D, 0, none⟩)] w fun e w' => e = .returned (.int .i64 nd) ∧ Fr NoB w w') :
    Calls Tryz.prog 60 #[.pointer (some ⟨D, 0, none⟩), .pointer (some ⟨cb, 0, none⟩), .int .i64 (-1), .int .u32 res, .slice (some ⟨X, 0, none⟩) 1 cap] w
      fun e w' => e = .returned (.int .u32 res) ∧ ∃ w1, Fr NoB w w1 ∧ w' = w1.setCell ⟨D, 2, none⟩ (.int .i32 (a)) := by
  obtain ⟨⟨h0, h1, h2, h3, h4, h5⟩, f0, f1, f2, f3, f4, f5⟩ := hD.cells
  have HC := hid hC
  obtain ⟨c0, c1, c2, c3, c4⟩ := hC
  have HN := hid hN
  clear hN hD h0 h1 h3 h4 h5 f0 f1 f3 f4 f5
  rcases hres with rfl | rfl | rfl
  all_goals
    go_enter Tryz.func60, Tryz.ntmps60
    go_wp2_with fail
    refine wp_loop_rounds 3 ?_
    repeat any_goals (rw [rounds_succ]; go_wp2_with fail)
    refine HN.out.mono ?_
    rintro e w1 ⟨rfl, hF⟩
    have k2 := hF.cell' h2 (fun h => h); have g2 := hF.frozen' h2 f2 (fun h => h)
    obtain ⟨d0, d1, d2, d3, d4⟩ := HC.out.fr hF (fun h => h)
    have HF := hid hF; clear hF
    clear h2 f2 c0 c1 c2 c3 c4
    go_wp2
    go_ret
    exact ⟨rfl, w1, HF.out, rfl⟩

set_option maxRecDepth 100000 in
set_option maxHeartbeats 1000000 in
theorem setExponent_two_given (D cb : Nat) (f : Int) (n : Bool) (e0 : Int) (cn : Bool) (Av : Value) (m : Bool) (nd res a b : Int) (X cap : Nat) (w : World) (hD : DecAt w D f n e0 cn Av m)
    (prec traps : Int) (r : ByteArray) (hC : CtxAt w cb prec 100000 (-100000) traps r) (hX : w.cell? ⟨X, 0, none⟩ = some (.int .i64 a)) (hX1 : w.cell? ⟨X, 1, none⟩ = some (.int .i64 b)) (halo : -100000 ≤ a) (hahi : a ≤ 100000) (hblo : -100000 ≤ b) (hbhi : b ≤ 100000) (hablo : -2147483648 ≤ a + b) (habhi : a + b ≤ 2147483647) (hnd : 1 ≤ nd) (hnd' : nd ≤ 1000) (hs : -100000 ≤ a + b + nd - 1) (hs' : a + b + nd - 1 ≤ 100000) (hres : res = 0 ∨ res = 64 ∨ res = 80) :
    Calls Tryz.prog 60 #[.pointer (some ⟨D, 0, none⟩), .pointer (some ⟨cb, 0, none⟩), .int .i64 nd, .int .u32 res, .slice (some ⟨X, 0, none⟩) 2 cap] w
      fun e w' => e = .returned (.int .u32 res) ∧ w' = w.setCell ⟨D, 2, none⟩ (.int .i32 (a + b)) := by
  obtain ⟨⟨h0, h1, h2, h3, h4, h5⟩, f0, f1, f2, f3, f4, f5⟩ := hD.cells
  have HC := hid hC
  obtain ⟨c0, c1, c2, c3, c4⟩ := hC
  have hnd1 : (nd == -1) = false := by simp; omega
  clear hD h0 h1 h3 h4 h5 f0 f1 f3 f4 f5
  rcases hres with rfl | rfl | rfl
  all_goals
    go_enter Tryz.func60, Tryz.ntmps60
    go_wp2
    go_rounds 3
    go_ret
    exact ⟨rfl, rfl⟩

set_option maxRecDepth 100000 in
set_option maxHeartbeats 1000000 in
theorem setExponent_two_asked (D cb : Nat) (f : Int) (n : Bool) (e0 : Int) (cn : Bool) (Av : Value) (m : Bool) (nd res a b : Int) (X cap : Nat) (w : World) (hD : DecAt w D f n e0 cn Av m)
    (prec traps : Int) (r : ByteArray) (hC : CtxAt w cb prec 100000 (-100000) traps r) (hX : w.cell? ⟨X, 0, none⟩ = some (.int .i64 a)) (hX1 : w.cell? ⟨X, 1, none⟩ = some (.int .i64 b)) (halo : -100000 ≤ a) (hahi : a ≤ 100000) (hblo : -100000 ≤ b) (hbhi : b ≤ 100000) (hablo : -2147483648 ≤ a + b) (habhi : a + b ≤ 2147483647) (hnd : 1 ≤ nd) (hnd' : nd ≤ 1000) (hs : -100000 ≤ a + b + nd - 1) (hs' : a + b + nd - 1 ≤ 100000) (hres : res = 0 ∨ res = 64 ∨ res = 80) (hN : Calls Tryz.prog 88 #[.pointer (some ⟨D, 0, none⟩)] w fun e w' => e = .returned (.int .i64 nd) ∧ Fr NoB w w') :
    Calls Tryz.prog 60 #[.pointer (some ⟨D, 0, none⟩), .pointer (some ⟨cb, 0, none⟩), .int .i64 (-1), .int .u32 res, .slice (some ⟨X, 0, none⟩) 2 cap] w
      fun e w' => e = .returned (.int .u32 res) ∧ ∃ w1, Fr NoB w w1 ∧ w' = w1.setCell ⟨D, 2, none⟩ (.int .i32 (a + b)) := by
  obtain ⟨⟨h0, h1, h2, h3, h4, h5⟩, f0, f1, f2, f3, f4, f5⟩ := hD.cells
  have HC := hid hC
  obtain ⟨c0, c1, c2, c3, c4⟩ := hC
  have HN := hid hN
  clear hN hD h0 h1 h3 h4 h5 f0 f1 f3 f4 f5
  rcases hres with rfl | rfl | rfl
  all_goals
    go_enter Tryz.func60, Tryz.ntmps60
    go_wp2_with fail
    refine wp_loop_rounds 3 ?_
    repeat any_goals (rw [rounds_succ]; go_wp2_with fail)
    refine HN.out.mono ?_
    rintro e w1 ⟨rfl, hF⟩
    have k2 := hF.cell' h2 (fun h => h); have g2 := hF.frozen' h2 f2 (fun h => h)
    obtain ⟨d0, d1, d2, d3, d4⟩ := HC.out.fr hF (fun h => h)
    have HF := hid hF; clear hF
    clear h2 f2 c0 c1 c2 c3 c4
    go_wp2
    go_ret
    exact ⟨rfl, w1, HF.out, rfl⟩

end Go.Proofs.YteokhhepnoelhaaGreatDoor

set_option linter.unusedVariables false
set_option linter.unusedSimpArgs false
namespace Go.Proofs.YteokhhepnoelhaaGreatDoor
open Go.RowKit

def bigSign (cn : Bool) (k : Nat) (m : Bool) : Int := if m then -1 else if k = 0 then 0 else if cn then -1 else 1
def decSign (f : Int) (n cn : Bool) (k : Nat) (m : Bool) : Int := if f = 0 ∧ bigSign cn k m = 0 then 0 else if n then -1 else 1

theorem bigSign_any (D o : Nat) (cn : Bool) (A : Option Addr) (k kc : Nat) (m : Bool) (w : World) (h3 : w.cell? ⟨D, o, none⟩ = some (.bool cn)) (h4 : w.cell? ⟨D, o + 1, none⟩ = some (.slice A k kc)) (h5 : w.cell? ⟨D, o + 2, none⟩ = some (.bool m)) :
    Calls Tryz.prog 103 #[.pointer (some ⟨D, o, none⟩)] w fun e w' => e = .returned (.int .i64 (bigSign cn k m)) ∧ w = w' := by
  cases m with
  | true =>
    go_enter Tryz.func103, Tryz.ntmps103
    go_wp2
    go_ret
    exact ⟨rfl, rfl⟩
  | false =>
    by_cases hk : k = 0
    · subst hk
      go_enter Tryz.func103, Tryz.ntmps103
      go_wp2
      go_ret
      exact ⟨rfl, rfl⟩
    · have hk0 : ((k : Int) == 0) = false := by simp; omega
      have hk' : bigSign cn k false = if cn then -1 else 1 := by simp [bigSign, hk]
      have HK := hid hk'
      clear hk'
      cases cn with
      | true =>
        go_enter Tryz.func103, Tryz.ntmps103
        go_wp2
        go_ret
        exact ⟨by rw [HK.out]; rfl, rfl⟩
      | false =>
        go_enter Tryz.func103, Tryz.ntmps103
        go_wp2
        go_ret
        exact ⟨by rw [HK.out]; rfl, rfl⟩

theorem decSign_any (D : Nat) (f : Int) (n : Bool) (e0 : Int) (cn : Bool) (A : Option Addr) (k kc : Nat) (m : Bool) (w : World) (hD : DecAt w D f n e0 cn (.slice A k kc) m) :
    Calls Tryz.prog 100 #[.pointer (some ⟨D, 0, none⟩)] w fun e w' => e = .returned (.int .i64 (decSign f n cn k m)) ∧ w = w' := by
  obtain ⟨⟨h0, h1, h2, h3, h4, h5⟩, f0, f1, f2, f3, f4, f5⟩ := hD.cells
  have HS := hid (bigSign_any D 3 cn A k kc m w h3 h4 h5)
  clear hD h2 h3 h4 h5 f0 f1 f2 f3 f4 f5
  by_cases hf : f = 0
  · subst hf
    by_cases hb : bigSign cn k m = 0
    · have hd : decSign 0 n cn k m = 0 := by simp [decSign, hb]
      have H := hid hd
      clear hd
      rw [hb] at HS
      clear hb
      go_enter Tryz.func100, Tryz.ntmps100
      go_wp2_with (go_at_call 103; refine HS.out.mono ?_; rintro e w1 ⟨rfl, rfl⟩)
      go_ret
      exact ⟨by rw [H.out]; rfl, rfl⟩
    · have hd : decSign 0 n cn k m = if n then -1 else 1 := by simp [decSign, hb]
      have H := hid hd
      clear hd
      have hb0 : (bigSign cn k m == 0) = false := by simpa using hb
      generalize bigSign cn k m = s at *
      cases n with
      | true =>
        go_enter Tryz.func100, Tryz.ntmps100
        go_wp2_with (go_at_call 103; refine HS.out.mono ?_; rintro e w1 ⟨rfl, rfl⟩)
        go_ret
        exact ⟨by rw [H.out]; rfl, rfl⟩
      | false =>
        go_enter Tryz.func100, Tryz.ntmps100
        go_wp2_with (go_at_call 103; refine HS.out.mono ?_; rintro e w1 ⟨rfl, rfl⟩)
        go_ret
        exact ⟨by rw [H.out]; rfl, rfl⟩
  · have hd : decSign f n cn k m = if n then -1 else 1 := by simp [decSign, hf]
    have H := hid hd
    clear hd
    have hf0 : (f == 0) = false := by simpa using hf
    cases n with
    | true =>
      go_enter Tryz.func100, Tryz.ntmps100
      go_wp2_with fail
      go_ret
      exact ⟨by rw [H.out]; rfl, rfl⟩
    | false =>
      go_enter Tryz.func100, Tryz.ntmps100
      go_wp2_with fail
      go_ret
      exact ⟨by rw [H.out]; rfl, rfl⟩

set_option maxRecDepth 100000 in
set_option maxHeartbeats 1000000 in
theorem round_zero (D cb : Nat) (f : Int) (n : Bool) (e0 : Int) (cn : Bool) (A : Option Addr) (k kc : Nat) (m : Bool) (nd : Int) (w : World) (hD : DecAt w D f n e0 cn (.slice A k kc) m)
    (traps : Int) (r : ByteArray) (hC : CtxAt w cb 0 100000 (-100000) traps r) (helo : -100000 ≤ e0) (hehi : e0 ≤ 100000) (hnd : 1 ≤ nd) (hnd' : nd ≤ 1000) (hs : -100000 ≤ e0 + nd - 1) (hs' : e0 + nd - 1 ≤ 100000)
    (hN : Calls Tryz.prog 88 #[.pointer (some ⟨D, 0, none⟩)] w fun e w' => e = .returned (.int .i64 nd) ∧ Fr NoB w w') :
    Calls Tryz.prog 42 #[.pointer (some ⟨cb, 0, none⟩), .pointer (some ⟨D, 0, none⟩), .pointer (some ⟨D, 0, none⟩)] w
      fun e w' => e = .returned (.int .u32 0) ∧ DecAt w' D f n e0 cn (.slice A k kc) m ∧ Fr (fun i => i = D) w w' := by
  obtain ⟨⟨h0, h1, h2, h3, h4, h5⟩, f0, f1, f2, f3, f4, f5⟩ := hD.cells
  have HC := hid hC; have HD := hid hD; have HN := hid hN
  obtain ⟨c0, c1, c2, c3, c4⟩ := hC
  clear hN hD
  have hq := fun w => eql51_same ⟨D, 0, none⟩ w
  go_enter Tryz.func42, Tryz.ntmps42
  go_wp2_with (first | (go_at_call 61; go_in) | (go_at_call 99; go_in))
  refine HN.out.mono ?_
  rintro e w1 ⟨rfl, hF⟩
  have HD1 := hid (HD.out.fr hF (fun h => h))
  have HC1 := hid (HC.out.fr hF (fun h => h))
  have HF := hid hF
  clear hF h0 h1 h2 h3 h4 h5 f0 f1 f2 f3 f4 f5 c0 c1 c2 c3 c4
  obtain ⟨⟨h0, h1, h2, h3, h4, h5⟩, f0, f1, f2, f3, f4, f5⟩ := HD1.out.cells
  obtain ⟨c0, c1, c2, c3, c4⟩ := HC1.out
  go_wp2_with (go_at_call 100; refine (decSign_any D f n e0 cn A k kc m w1 HD1.out).mono ?_; rintro e w2 ⟨rfl, rfl⟩)
  have hFa : Fr NoB w1 (w1.alloc (.cells #[.int .i64 e0] 2)) := (Fr.refl _ w1).alloc _
  refine (setExponent_one_given D cb f n e0 cn (.slice A k kc) m nd 0 e0 w1.heap.size 1 _ (HD1.out.fr hFa (fun h => h)) 0 traps r (HC1.out.fr hFa (fun h => h)) (by simp) helo hehi hnd hnd' hs hs' (.inl rfl)).mono ?_
  rintro e w3 ⟨rfl, rfl⟩
  have HFa := hid hFa
  clear hFa h0 h1 h2 h3 h4 h5 f0 f1 f2 f3 f4 f5 c0 c1 c2 c3 c4
  go_wp2
  go_ret
  refine ⟨rfl, (HD1.out.fr HFa.out (fun h => h)).set2 e0, ?_⟩
  refine Fr.setCell (S := fun i => i = D) ?_ (fun _ => rfl) _
  exact ((HF.out.trans HFa.out (fun _ _ h => h)).mono (fun _ _ h => h.elim))
end Go.Proofs.YteokhhepnoelhaaGreatDoor

set_option linter.unusedVariables false
set_option linter.unusedSimpArgs false
namespace Go.Proofs.YteokhhepnoelhaaGreatDoor
open Go.RowKit

theorem numDigits_zero (D : Nat) (f : Int) (n : Bool) (e0 : Int) (cn : Bool) (A : Option Addr) (kc : Nat) (m : Bool) (w : World) (hD : DecAt w D f n e0 cn (.slice A 0 kc) m) :
    Calls Tryz.prog 88 #[.pointer (some ⟨D, 0, none⟩)] w fun e w' => e = .returned (.int .i64 1) ∧ w = w' := by
  obtain ⟨⟨h0, h1, h2, h3, h4, h5⟩, f0, f1, f2, f3, f4, f5⟩ := hD.cells
  go_enter Tryz.func88, Tryz.ntmps88
  go_wp2
  go_ret
  exact ⟨rfl, rfl⟩

/-- What setString leaves, at SetString's call: as SpecialEnd. -/
theorem ctxSetString_special (D cb : Nat) (l : List UInt8) (F : Int) (neg : Bool) (w : World) (traps : Int) (r : ByteArray) (hC : CtxAt w cb 0 100000 (-100000) traps r) (hne : cb ≠ D)
    (hS : Calls Tryz.prog 41 #[.pointer (some ⟨D, 0, none⟩), .pointer (some ⟨cb, 0, none⟩), .string ⟨l.toArray⟩] w (SpecialEnd w D F neg)) :
    Calls Tryz.prog 30 #[.pointer (some ⟨cb, 0, none⟩), .pointer (some ⟨D, 0, none⟩), .string ⟨l.toArray⟩] w
      fun e w' => e = .returned (.tuple #[.pointer (some ⟨D, 0, none⟩), .int .u32 0, .nilIface]) ∧ DecAt w' D F neg 0 false (.slice none 0 0) false ∧ Fr (fun i => i = D) w w' := by
  have HC := hid hC; have HS := hid hS
  clear hC hS
  go_enter Tryz.func30, Tryz.ntmps30
  go_wp2_with fail
  refine HS.out.mono ?_
  rintro e w1 ⟨rfl, hD1, hF1⟩
  have HC1 := hid (HC.out.fr hF1 hne)
  have HD1 := hid hD1; have HF1 := hid hF1
  clear hD1 hF1
  go_wp2_with fail
  refine (round_zero D cb F neg 0 false none 0 0 false 1 w1 HD1.out traps r HC1.out (by omega) (by omega) (by omega) (by omega) (by omega) (by omega)
    ((numDigits_zero D F neg 0 false none 0 false w1 HD1.out).mono fun e w' ⟨he, hw⟩ => ⟨he, by subst hw; exact Fr.refl _ _⟩)).mono ?_
  rintro e w2 ⟨rfl, hD2, hF2⟩
  have HD2 := hid hD2; have HF2 := hid hF2
  clear hD2 hF2
  go_wp2_with (go_at_call 43; go_in)
  go_ret3
  exact ⟨rfl, HD2.out, HF1.out.trans HF2.out (fun _ _ h => h)⟩

abbrev condArr : Value := .agg #[.int .u32 4, .int .u32 8, .int .u32 16, .int .u32 32, .int .u32 64, .int .u32 128, .int .u32 256, .int .u32 512, .int .u32 1024, .int .u32 2048, .int .u32 1, .int .u32 2]

set_option maxRecDepth 100000 in
set_option maxHeartbeats 1000000 in
theorem conditions_0 (w : World) : Calls Tryz.prog 24 #[.int .u32 0] w fun e w' => e = .returned (.int .i64 0) ∧ w = w' := by
  have i0 : ∀ w, (Instr.index 86 condArr (.int .i64 0)).run Tryz.prog w = .ok (.int .u32 4) w := fun _ => by kernel_rfl
  have i1 : ∀ w, (Instr.index 86 condArr (.int .i64 1)).run Tryz.prog w = .ok (.int .u32 8) w := fun _ => by kernel_rfl
  have i2 : ∀ w, (Instr.index 86 condArr (.int .i64 2)).run Tryz.prog w = .ok (.int .u32 16) w := fun _ => by kernel_rfl
  have i3 : ∀ w, (Instr.index 86 condArr (.int .i64 3)).run Tryz.prog w = .ok (.int .u32 32) w := fun _ => by kernel_rfl
  have i4 : ∀ w, (Instr.index 86 condArr (.int .i64 4)).run Tryz.prog w = .ok (.int .u32 64) w := fun _ => by kernel_rfl
  have i5 : ∀ w, (Instr.index 86 condArr (.int .i64 5)).run Tryz.prog w = .ok (.int .u32 128) w := fun _ => by kernel_rfl
  have i6 : ∀ w, (Instr.index 86 condArr (.int .i64 6)).run Tryz.prog w = .ok (.int .u32 256) w := fun _ => by kernel_rfl
  have i7 : ∀ w, (Instr.index 86 condArr (.int .i64 7)).run Tryz.prog w = .ok (.int .u32 512) w := fun _ => by kernel_rfl
  have i8 : ∀ w, (Instr.index 86 condArr (.int .i64 8)).run Tryz.prog w = .ok (.int .u32 1024) w := fun _ => by kernel_rfl
  have i9 : ∀ w, (Instr.index 86 condArr (.int .i64 9)).run Tryz.prog w = .ok (.int .u32 2048) w := fun _ => by kernel_rfl
  have i10 : ∀ w, (Instr.index 86 condArr (.int .i64 10)).run Tryz.prog w = .ok (.int .u32 1) w := fun _ => by kernel_rfl
  have i11 : ∀ w, (Instr.index 86 condArr (.int .i64 11)).run Tryz.prog w = .ok (.int .u32 2) w := fun _ => by kernel_rfl
  go_enter Tryz.func24, Tryz.ntmps24
  go_wp2
  go_rounds 13
  go_ret
  exact ⟨rfl, rfl⟩

set_option maxRecDepth 100000 in
set_option maxHeartbeats 1000000 in
theorem told_special (D : Nat) (F : Int) (hFF : F = 1 ∨ F = 2 ∨ F = 3) (neg : Bool) (w : World) (hD : DecAt w D F neg 0 false (.slice none 0 0) false) :
    Calls Tryz.prog 25 #[.pointer (some ⟨D, 0, none⟩)] w fun e w' => e = .returned (.agg #[.int .i64 F, .bool neg, .slice none 0 0, .int .i64 0]) ∧ Fr NoB w w' := by
  obtain ⟨⟨h0, h1, h2, h3, h4, h5⟩, f0, f1, f2, f3, f4, f5⟩ := hD.cells
  have hlt := blk_lt hD
  clear hD
  rcases hFF with rfl | rfl | rfl
  all_goals
    go_enter Tryz.func25, Tryz.ntmps25
    go_wp2
    go_returns
    exact ⟨rfl, ((Fr.refl _ _).alloc _).alloc _⟩

set_option maxRecDepth 100000 in
set_option maxHeartbeats 1000000 in
theorem parse_special (l : List UInt8) (F : Int) (hFF : F = 1 ∨ F = 2 ∨ F = 3) (neg : Bool) (w : World) (r : ByteArray) (hC : CtxAt w 0 0 100000 (-100000) 1967 r)
    (hS : ∀ (D : Nat) (w1 : World), DecAt w1 D 0 false 0 false (.slice none 0 0) false → Fr NoB w w1 → w.heap.size ≤ D → Calls Tryz.prog 41 #[.pointer (some ⟨D, 0, none⟩), .pointer (some ⟨0, 0, none⟩), .string ⟨l.toArray⟩] w1 (SpecialEnd w1 D F neg)) :
    Calls Tryz.prog 9 #[.string ⟨l.toArray⟩] w
      fun e w' => e = .returned (.tuple #[.agg #[.int .i64 F, .bool neg, .slice none 0 0, .int .i64 0], .int .i64 0, .bool true]) ∧ Fr NoB w w' := by
  have HC := hid hC; have HS := hid hS
  clear hC hS
  have h0 : (0 : Nat) < w.heap.size := World.block_lt_of_cell? w ⟨0, 0, none⟩ HC.out.c0
  go_enter Tryz.func9, Tryz.ntmps9
  go_wp2_with (first | (go_at_call 23; go_in) | (go_at_call 37; go_in))
  have hR0 : ((w.alloc (.cells #[.int .i64 0, .bool false, .slice none 0 0, .int .i64 0] 30)).alloc (.cells #[.int .i8 0, .bool false, .int .i32 0, .bool false, .slice none 0 0, .bool false] 72)).heap[w.heap.size]? = some (.cells #[.int .i64 0, .bool false, .slice none 0 0, .int .i64 0] 30 (0, 0)) :=
    blk_alloc (blk_new w _) _
  have hD0 : DecAt ((w.alloc (.cells #[.int .i64 0, .bool false, .slice none 0 0, .int .i64 0] 30)).alloc (.cells #[.int .i8 0, .bool false, .int .i32 0, .bool false, .slice none 0 0, .bool false] 72)) (w.heap.size + 1) 0 false 0 false (.slice none 0 0) false := by
    have := blk_new (w.alloc (.cells #[.int .i64 0, .bool false, .slice none 0 0, .int .i64 0] 30)) (.cells #[.int .i8 0, .bool false, .int .i32 0, .bool false, .slice none 0 0, .bool false] 72 (0, 0))
    rw [World.size_alloc] at this
    exact this
  have hF0 : Fr NoB w ((w.alloc (.cells #[.int .i64 0, .bool false, .slice none 0 0, .int .i64 0] 30)).alloc (.cells #[.int .i8 0, .bool false, .int .i32 0, .bool false, .slice none 0 0, .bool false] 72)) :=
    ((Fr.refl _ _).alloc _).alloc _
  have HR0 := hid hR0; have HD0 := hid hD0; have HF0 := hid hF0
  clear hR0 hD0 hF0
  generalize hW : ((w.alloc (.cells #[.int .i64 0, .bool false, .slice none 0 0, .int .i64 0] 30)).alloc (.cells #[.int .i8 0, .bool false, .int .i32 0, .bool false, .slice none 0 0, .bool false] 72)) = W at *
  clear hW
  refine (ctxSetString_special (w.heap.size + 1) 0 l F neg W 1967 r (HC.out.fr HF0.out (fun h => h)) (by omega) (HS.out _ _ HD0.out HF0.out (by omega))).mono ?_
  rintro e w1 ⟨rfl, hD1, hF1⟩
  have HR1 := hid (hF1.blk HR0.out (by omega))
  have HD1 := hid hD1
  have HF1 := hid ((HF0.out.trans hF1 (fun i hi h => by omega) : Fr NoB w w1))
  clear hD1 hF1
  go_wp2_with fail
  refine (told_special _ F hFF neg _ HD1.out).mono ?_
  rintro e w2 ⟨rfl, hF2⟩
  have hR2 := hF2.blk HR1.out (fun h => h)
  have HF2 := hid (HF1.out.trans hF2 (fun _ _ h => h))
  have r0 := blk_cell hR2 0; have r1 := blk_cell hR2 1; have r2 := blk_cell hR2 2; have r3 := blk_cell hR2 3
  have g0 := blk_frozen hR2 0; have g1 := blk_frozen hR2 1; have g2 := blk_frozen hR2 2; have g3 := blk_frozen hR2 3
  clear hF2 hR2
  simp only [List.getElem?_toArray, List.getElem?_cons_zero, List.getElem?_cons_succ] at r0 r1 r2 r3
  go_wp2_with (go_at_call 24; refine (conditions_0 _).mono ?_; rintro e w3 ⟨rfl, rfl⟩)
  refine bodyPost_ret (v := .tuple #[.agg #[.int .i64 F, .bool neg, .slice none 0 0, .int .i64 0], .int .i64 0, .bool true]) (by simp [results, Tryz.results9, go_sem, r0, r1, r2, r3]) rfl ⟨rfl, ?_⟩
  have hS : ∀ i, w.heap.size ≤ i → i < w.heap.size → NoB i := fun i h h' => by omega
  exact (((HF2.out.setCell (fun h => hS _ (Nat.le_refl _) h) _).setCell (fun h => hS _ (Nat.le_refl _) h) _).setCell (fun h => hS _ (Nat.le_refl _) h) _).setCell (fun h => hS _ (Nat.le_refl _) h) _
end Go.Proofs.YteokhhepnoelhaaGreatDoor

set_option linter.unusedVariables false
set_option linter.unusedSimpArgs false
namespace Go.Proofs.YteokhhepnoelhaaGreatDoor
open Go.RowKit

/-- What the laid variables hold. -/
structure Vars (w : World) (a : Addr) (tpS tpR : TypeId) (pS pR : Value) (r : ByteArray) : Prop where
  ctx : CtxAt w 0 0 100000 (-100000) 1967 r
  cse : Lib.CaseVar 1 Lib.caseA w
  u8 : Lib.Utf8Tabs 6 7 w
  eof : EofAt w a
  eS : w.var? Tryz.prog "strconv.ErrSyntax" = some #[.iface tpS pS]
  eR : w.var? Tryz.prog "strconv.ErrRange" = some #[.iface tpR pR]

theorem ctxSetString_fail (D cb : Nat) (l : List UInt8) (w : World) (hS : Calls Tryz.prog 41 #[.pointer (some ⟨D, 0, none⟩), .pointer (some ⟨cb, 0, none⟩), .string ⟨l.toArray⟩] w (FailEnd w D)) :
    Calls Tryz.prog 30 #[.pointer (some ⟨cb, 0, none⟩), .pointer (some ⟨D, 0, none⟩), .string ⟨l.toArray⟩] w
      fun e w' => (∃ p, e = .returned (.tuple #[.pointer none, .int .u32 0, .iface 147 (.pointer (some p))])) ∧ Fr (fun i => i = D) w w' := by
  have HS := hid hS
  clear hS
  go_enter Tryz.func30, Tryz.ntmps30
  go_wp2_with fail
  refine HS.out.mono ?_
  rintro e w1 ⟨⟨p, rfl⟩, hF1⟩
  have HF1 := hid hF1
  clear hF1
  go_wp2_with fail
  go_ret3
  exact ⟨⟨_, rfl⟩, HF1.out⟩

set_option maxRecDepth 100000 in
set_option maxHeartbeats 1000000 in
theorem parse_fail (l : List UInt8) (w : World)
    (hS : ∀ (D : Nat) (w1 : World), DecAt w1 D 0 false 0 false (.slice none 0 0) false → Fr NoB w w1 → w.heap.size ≤ D → Calls Tryz.prog 41 #[.pointer (some ⟨D, 0, none⟩), .pointer (some ⟨0, 0, none⟩), .string ⟨l.toArray⟩] w1 (FailEnd w1 D)) :
    Calls Tryz.prog 9 #[.string ⟨l.toArray⟩] w
      fun e w' => e = .returned (.tuple #[.agg #[.int .i64 0, .bool false, .slice none 0 0, .int .i64 0], .int .i64 0, .bool false]) ∧ Fr NoB w w' := by
  have HS := hid hS
  clear hS
  go_enter Tryz.func9, Tryz.ntmps9
  go_wp2_with (first | (go_at_call 23; go_in) | (go_at_call 37; go_in))
  have hR0 : ((w.alloc (.cells #[.int .i64 0, .bool false, .slice none 0 0, .int .i64 0] 30)).alloc (.cells #[.int .i8 0, .bool false, .int .i32 0, .bool false, .slice none 0 0, .bool false] 72)).heap[w.heap.size]? = some (.cells #[.int .i64 0, .bool false, .slice none 0 0, .int .i64 0] 30 (0, 0)) :=
    blk_alloc (blk_new w _) _
  have hD0 : DecAt ((w.alloc (.cells #[.int .i64 0, .bool false, .slice none 0 0, .int .i64 0] 30)).alloc (.cells #[.int .i8 0, .bool false, .int .i32 0, .bool false, .slice none 0 0, .bool false] 72)) (w.heap.size + 1) 0 false 0 false (.slice none 0 0) false := by
    have := blk_new (w.alloc (.cells #[.int .i64 0, .bool false, .slice none 0 0, .int .i64 0] 30)) (.cells #[.int .i8 0, .bool false, .int .i32 0, .bool false, .slice none 0 0, .bool false] 72 (0, 0))
    rw [World.size_alloc] at this
    exact this
  have hF0 : Fr NoB w ((w.alloc (.cells #[.int .i64 0, .bool false, .slice none 0 0, .int .i64 0] 30)).alloc (.cells #[.int .i8 0, .bool false, .int .i32 0, .bool false, .slice none 0 0, .bool false] 72)) :=
    ((Fr.refl _ _).alloc _).alloc _
  have HR0 := hid hR0; have HD0 := hid hD0; have HF0 := hid hF0
  clear hR0 hD0 hF0
  generalize hW : ((w.alloc (.cells #[.int .i64 0, .bool false, .slice none 0 0, .int .i64 0] 30)).alloc (.cells #[.int .i8 0, .bool false, .int .i32 0, .bool false, .slice none 0 0, .bool false] 72)) = W at *
  clear hW
  refine (ctxSetString_fail (w.heap.size + 1) 0 l W (HS.out _ _ HD0.out HF0.out (by omega))).mono ?_
  rintro e w1 ⟨⟨p, rfl⟩, hF1⟩
  have hR1 := hF1.blk HR0.out (by omega)
  have HF1 := hid ((HF0.out.trans hF1 (fun i hi h => by omega) : Fr NoB w w1))
  have r0 := blk_cell hR1 0; have r1 := blk_cell hR1 1; have r2 := blk_cell hR1 2; have r3 := blk_cell hR1 3
  have g0 := blk_frozen hR1 0; have g1 := blk_frozen hR1 1; have g2 := blk_frozen hR1 2; have g3 := blk_frozen hR1 3
  clear hF1 hR1
  simp only [List.getElem?_toArray, List.getElem?_cons_zero, List.getElem?_cons_succ] at r0 r1 r2 r3
  go_wp2_with (go_at_call 24; refine (conditions_0 _).mono ?_; rintro e w3 ⟨rfl, rfl⟩)
  refine bodyPost_ret (v := .tuple #[.agg #[.int .i64 0, .bool false, .slice none 0 0, .int .i64 0], .int .i64 0, .bool false]) (by simp [results, Tryz.results9, go_sem, r0, r1, r2, r3]) rfl ⟨rfl, ?_⟩
  have hS : ∀ i, w.heap.size ≤ i → i < w.heap.size → NoB i := fun i h h' => by omega
  exact (((HF1.out.setCell (fun h => hS _ (Nat.le_refl _) h) _).setCell (fun h => hS _ (Nat.le_refl _) h) _).setCell (fun h => hS _ (Nat.le_refl _) h) _).setCell (fun h => hS _ (Nat.le_refl _) h) _

theorem var_keep {w w' : World} {n : String} {g : Nat} {cs : Array Value} (hg : Tryz.prog.globalNamed n = some g) (hb : Below w.heap.size w w') (hlt : g < w.heap.size) (hv : w.var? Tryz.prog n = some cs) : w'.var? Tryz.prog n = some cs := by
  unfold World.var? at hv ⊢
  simp only [hg, Option.bind_some] at hv ⊢
  rw [hb.block g hlt]
  exact hv

theorem Vars.below {w w' : World} {a : Addr} {tpS tpR : TypeId} {pS pR : Value} {r : ByteArray} (h : Vars w a tpS tpR pS pR r) (hb : Below w.heap.size w w') : Vars w' a tpS tpR pS pR r := by
  have h5 : 5 < w.heap.size := h.eof.lt
  have hF : Fr NoB w w' := Fr.of_below hb _
  exact ⟨h.ctx.fr hF (fun h => h), Lib.CaseVar_below h.cse hb, Utf8Tabs_below h.u8 hb, hF.cell' h.eof (fun h => h),
    var_keep (n := "strconv.ErrSyntax") (g := 2) (by kernel_rfl) hb (by omega) h.eS, var_keep (n := "strconv.ErrRange") (g := 3) (by kernel_rfl) hb (by omega) h.eR⟩

theorem lowerAt (D : Nat) (n0 : Bool) (l : List UInt8) (w0 w : World) {a : Addr} {tpS tpR : TypeId} {pS pR : Value} {r : ByteArray} (hV : Vars w0 a tpS tpR pS pR r) (hF : Fr NoB w0 w) (hD : w0.heap.size ≤ D) (hl : l.length ≤ 1000) :
    LowerAt w D l (Lib.toLowerD (unsign l)) := by
  unfold LowerAt
  have hF2 : Fr (fun i => i = D) w0 (w.setCell ⟨D, 1, none⟩ (.bool (Lib.hasPrefix l [45]))) := (hF.mono (S' := fun i => i = D) (fun _ _ h => h.elim)).setCell (p := ⟨D, 1, none⟩) (fun _ => rfl) _
  have hV2 := hV.below (hF2.to_below (Nat.le_refl _) (fun i hi h => by have : i = D := h; omega))
  have hul := unsign_len l
  exact (Tryz.strings_ToLower_any ⟨(unsign l).toArray⟩ _ (by rw [str_size]; omega) hV2.cse hV2.u8).mono fun e w' ⟨he, hb⟩ => ⟨he, Fr.of_below hb _⟩

/-- setString fails at a text that the law's guards let in. -/
theorem setString_bad (D : Nat) (l : List UInt8) (w0 w : World) {a : Addr} {tpS tpR : TypeId} {pS pR : Value} {r : ByteArray} (hV : Vars w0 a tpS tpR pS pR r) (hF : Fr NoB w0 w) (hDg : w0.heap.size ≤ D) (hl : l.length ≤ 60)
    (hD : DecAt w D 0 false 0 false (.slice none 0 0) false) (hn : ∀ b ∈ l, b.toNat ≠ 110 ∧ b.toNat ≠ 78) (hg : (∃ b ∈ l, OddB b) ∨ ∀ b ∈ l, ¬ figB b) :
    Calls Tryz.prog 41 #[.pointer (some ⟨D, 0, none⟩), .pointer (some ⟨0, 0, none⟩), .string ⟨l.toArray⟩] w (FailEnd w D) := by
  have hT := lowerAt D false l w0 w hV hF hDg (by omega)
  have h5 := hV.eof.lt
  cases hs1 : Lib.hasPrefix (Lib.toLowerD (unsign l)) [45] with
  | true => exact setString_sign D 0 false l _ w hD hT (by omega) (.inl hs1)
  | false =>
    cases hs2 : Lib.hasPrefix (Lib.toLowerD (unsign l)) [43] with
    | true => exact setString_sign D 0 false l _ w hD hT (by omega) (.inr hs2)
    | false =>
      have hVx : ∀ wx, Fr (fun i => i = D) w wx → Vars wx a tpS tpR pS pR r := fun wx hx =>
        hV.below (((hF.mono (S' := fun i => i = D) (fun _ _ h => h.elim)).trans hx (fun _ _ h => h)).to_below (Nat.le_refl _) (fun i hi h => by have : i = D := h; omega))
      have hul := unsign_len l
      have hll := lower_len _ (unsign l) (Nat.le_refl _)
      have hRN := reads_none l hg
      refine (setString_num D 0 false l _ w hD hT (by omega) hs1 hs2 (no_n l hn) (by omega) tpS tpR pS pR (fun wx hx => (hVx wx hx).eS) (fun wx hx => (hVx wx hx).eR) (by omega) a (hVx w (Fr.refl _ _)).eof ?_).mono ?_
      · intro ds es v X w1 h
        rw [hRN] at h
        cases h
      · intro e w' h
        unfold NumEnd at h
        rw [hRN] at h
        exact h

/-- impl.Parse at such a text: none. -/
theorem parse_bad (l : List UInt8) (w : World) {a : Addr} {tpS tpR : TypeId} {pS pR : Value} {r : ByteArray} (hV : Vars w a tpS tpR pS pR r) (hl : l.length ≤ 60)
    (hn : ∀ b ∈ l, b.toNat ≠ 110 ∧ b.toNat ≠ 78) (hg : (∃ b ∈ l, OddB b) ∨ ∀ b ∈ l, ¬ figB b) :
    Calls Tryz.prog 9 #[.string ⟨l.toArray⟩] w
      fun e w' => e = .returned (.tuple #[.agg #[.int .i64 0, .bool false, .slice none 0 0, .int .i64 0], .int .i64 0, .bool false]) ∧ Fr NoB w w' :=
  parse_fail l w (fun D w1 hD hF hge => setString_bad D l w w1 hV hF hge hl hD hn hg)
end Go.Proofs.YteokhhepnoelhaaGreatDoor

set_option linter.unusedVariables false
set_option linter.unusedSimpArgs false
namespace Go.Proofs.YteokhhepnoelhaaGreatDoor
open Go.RowKit

/-- A finite decimal as plain data. -/
def ToldRes (w : World) (neg : Bool) (V : Nat) (e0 : Int) (e : Ending) (w' : World) : Prop :=
  ∃ A n c, e = .returned (.agg #[.int .i64 0, .bool neg, .slice A n c, .int .i64 e0]) ∧ w'.ownsRow w.heap.size 36 1 (.slice A n c) (limbs V).length (u64s (limbs V)) ∧ Fr NoB w w'

theorem ownsRow_shape {w : World} {B n : Nat} {v : Value} {xs : List Value} (h : w.ownsRow B 36 1 v n xs) : ∃ A m c, v = .slice A m c := by
  obtain ⟨_, h | ⟨g', cap', cur', h, _⟩⟩ := h
  · exact ⟨_, _, _, h.1⟩
  · exact ⟨_, _, _, h⟩

set_option maxRecDepth 100000 in
set_option maxHeartbeats 2000000 in
theorem told_num (D : Nat) (neg : Bool) (e0 : Int) (v : Value) (V : Nat) (w : World) (hD : DecAt w D 0 neg e0 false v false) (hv : NatAt w v (limbs V)) (hl : (limbs V).length ≤ 900) (he0 : -1000000 ≤ e0) (he1 : e0 ≤ 1000000) :
    Calls Tryz.prog 25 #[.pointer (some ⟨D, 0, none⟩)] w (ToldRes w neg V e0) := by
  obtain ⟨⟨h0, h1, h2, h3, h4, h5⟩, f0, f1, f2, f3, f4, f5⟩ := hD.cells
  have hlt := blk_lt hD
  have HD := hid hD; have HV := hid hv
  clear hD hv
  go_enter Tryz.func25, Tryz.ntmps25
  go_wp2_with fail
  have hF0 : Fr NoB w ((w.alloc (.cells #[.int .i64 0, .bool false, .slice none 0 0, .int .i64 0] 30)).alloc (.cells #[.int .i64 0, .bool neg, .slice none 0 0, .int .i64 0] 30)) := ((Fr.refl _ _).alloc _).alloc _
  have hR : ((w.alloc (.cells #[.int .i64 0, .bool false, .slice none 0 0, .int .i64 0] 30)).alloc (.cells #[.int .i64 0, .bool neg, .slice none 0 0, .int .i64 0] 30)).heap[w.heap.size]? = some (.cells #[.int .i64 0, .bool false, .slice none 0 0, .int .i64 0] 30 (0, 0)) := blk_alloc (blk_new w _) _
  have hO : ((w.alloc (.cells #[.int .i64 0, .bool false, .slice none 0 0, .int .i64 0] 30)).alloc (.cells #[.int .i64 0, .bool neg, .slice none 0 0, .int .i64 0] 30)).heap[w.heap.size + 1]? = some (.cells #[.int .i64 0, .bool neg, .slice none 0 0, .int .i64 0] 30 (0, 0)) := by
    have := blk_new (w.alloc (.cells #[.int .i64 0, .bool false, .slice none 0 0, .int .i64 0] 30)) (.cells #[.int .i64 0, .bool neg, .slice none 0 0, .int .i64 0] 30 (0, 0))
    rw [World.size_alloc] at this
    exact this
  generalize ((w.alloc (.cells #[.int .i64 0, .bool false, .slice none 0 0, .int .i64 0] 30)).alloc (.cells #[.int .i64 0, .bool neg, .slice none 0 0, .int .i64 0] 30)) = W at *
  have hDW := HD.out.fr hF0 (fun h => h)
  have hFd : Fr NoB W W.drew := (Fr.refl _ _).drew
  have HWD := hid (implWords D 3 _ 72 v (limbs V) W.drew (show BlkAt W.drew D #[.int .i8 0, .bool neg, .int .i32 e0, .bool false, v, .bool false] 72 from hDW) rfl rfl ((HV.out.fr hF0 (fun _ _ h => h)).fr hFd (fun _ _ h => h)) hl (limbs_lt V))
  have q2 : W.cell? ⟨D, 2, none⟩ = some (.int .i32 e0) := by rw [blk_cell hDW]; rfl
  have o2 : W.cell? ⟨w.heap.size + 1, 2, none⟩ = some (.slice none 0 0) := by rw [blk_cell hO]; rfl
  have o3 : W.cell? ⟨w.heap.size + 1, 3, none⟩ = some (.int .i64 0) := by rw [blk_cell hO]; rfl
  have HF0 := hid hF0; have HR := hid hR; have HO := hid hO
  have hsW : w.heap.size + 1 < W.heap.size := blk_lt hO
  clear hF0 hR hO hDW hFd h0 h1 h2 h3 h4 h5 f0 f1 f2 f3 f4 f5
  go_region_with (first | (go_at_call 38; refine HWD.out.mono ?_; rintro e w2 ⟨v', rfl, hown, hF2⟩; obtain ⟨A, n, c, rfl⟩ := ownsRow_shape hown; have q2' : w2.cell? ⟨D, 2, none⟩ = some (.int .i32 e0) := hF2.cell' (w := W.drew) q2 (fun h => h); have o2' : w2.cell? ⟨w.heap.size + 1, 2, none⟩ = some (.slice none 0 0) := hF2.cell' (w := W.drew) o2 (fun h => h); have o3' : w2.cell? ⟨w.heap.size + 1, 3, none⟩ = some (.int .i64 0) := hF2.cell' (w := W.drew) o3 (fun h => h); have hO2 : w2.heap[w.heap.size + 1]? = some (.cells #[.int .i64 0, .bool neg, .slice none 0 0, .int .i64 0] 30 (0, 0)) := hF2.blk (w := W.drew) HO.out (fun h => h); have u2 : w2.frozen? ⟨w.heap.size + 1, 2, none⟩ = false := blk_frozen hO2 _; have u3 : w2.frozen? ⟨w.heap.size + 1, 3, none⟩ = false := blk_frozen hO2 _; have HO2 := hid hO2; have HF2 := hid hF2; have HOWN := hid hown; clear hO2 hF2 hown))
  all_goals
    have s2 := blk_set HO2.out 2 (.slice A n c)
    have s3 := blk_set s2 3 (.int .i64 (IntKind.i64.wrap e0))
    have hR2 : w2.heap[w.heap.size]? = some (.cells #[.int .i64 0, .bool false, .slice none 0 0, .int .i64 0] 30 (0, 0)) := HF2.out.blk (w := W.drew) HR.out (fun h => h)
    have hFs : Fr (fun i => i = w.heap.size + 1) w2 ((w2.setCell ⟨w.heap.size + 1, 2, none⟩ (.slice A n c)).setCell ⟨w.heap.size + 1, 3, none⟩ (.int .i64 (IntKind.i64.wrap e0))) :=
      Fr.setCell (S := fun i => i = w.heap.size + 1) (p := ⟨w.heap.size + 1, 3, none⟩) (Fr.setCell (S := fun i => i = w.heap.size + 1) (p := ⟨w.heap.size + 1, 2, none⟩) (Fr.refl _ _) (fun _ => rfl) _) (fun _ => rfl) _
    have hR3 := hFs.blk hR2 (by omega)
    have hown3 : ((w2.setCell ⟨w.heap.size + 1, 2, none⟩ (.slice A n c)).setCell ⟨w.heap.size + 1, 3, none⟩ (.int .i64 (IntKind.i64.wrap e0))).ownsRow W.heap.size 36 1 (.slice A n c) (limbs V).length (u64s (limbs V)) := by
      obtain ⟨a1, a2 | ⟨g', cap', cur', a2, a3, a4, a5⟩⟩ := HOWN.out
      · exact ⟨a1, .inl a2⟩
      · have a3 : W.heap.size ≤ g' := a3
        exact ⟨a1, .inr ⟨g', cap', cur', a2, a3, hFs.blk a4 (by omega), a5⟩⟩
    have hF3 : Fr NoB w ((w2.setCell ⟨w.heap.size + 1, 2, none⟩ (.slice A n c)).setCell ⟨w.heap.size + 1, 3, none⟩ (.int .i64 (IntKind.i64.wrap e0))) :=
      (HF0.out.trans ((Fr.refl NoB W).drew.trans HF2.out (fun _ _ h => h)) (fun _ _ h => h)).trans hFs (fun i hi h => by have h : i = w.heap.size + 1 := h; omega)
    have s3' : ((w2.setCell ⟨w.heap.size + 1, 2, none⟩ (.slice A n c)).setCell ⟨w.heap.size + 1, 3, none⟩ (.int .i64 (IntKind.i64.wrap e0))).heap[w.heap.size + 1]? = some (.cells #[.int .i64 0, .bool neg, .slice A n c, .int .i64 e0] 30 (0, 0)) := by
      have := s3
      rw [show IntKind.i64.wrap e0 = e0 from IntWalk.i64_in _ (by omega)] at this ⊢
      exact this
    clear s2 s3 hR2 hFs q2' o2' o3' u2 u3 HO2 HF2 HOWN q2 o2 o3
    generalize ((w2.setCell ⟨w.heap.size + 1, 2, none⟩ (.slice A n c)).setCell ⟨w.heap.size + 1, 3, none⟩ (.int .i64 (IntKind.i64.wrap e0))) = w3 at *
    have o0 := blk_cell s3' 0; have o1 := blk_cell s3' 1; have o2 := blk_cell s3' 2; have o3 := blk_cell s3' 3
    have r0 := blk_cell hR3 0; have r1 := blk_cell hR3 1; have r2 := blk_cell hR3 2; have r3 := blk_cell hR3 3
    have g0 := blk_frozen hR3 0; have g1 := blk_frozen hR3 1; have g2 := blk_frozen hR3 2; have g3 := blk_frozen hR3 3
    simp only [List.getElem?_toArray, List.getElem?_cons_zero, List.getElem?_cons_succ] at o0 o1 o2 o3 r0 r1 r2 r3
    have HOWN := hid hown3; have HF3 := hid hF3; have HR3 := hid hR3
    clear hown3 hF3 hR3 s3'
    go_wp2_with fail
    refine bodyPost_ret (v := .agg #[.int .i64 0, .bool neg, .slice A n c, .int .i64 e0]) (by simp [results, Tryz.results25, go_sem, r0, r1, r2, r3]) rfl ?_
    have fin : ∀ a : World, Fr (fun i => i = w.heap.size) w3 a → ToldRes w neg V e0 (.returned (.agg #[.int .i64 0, .bool neg, .slice A n c, .int .i64 e0])) a := by
      intro a hFe
      refine ⟨A, n, c, rfl, ?_, HF3.out.trans hFe (fun i hi h => by omega)⟩
      obtain ⟨a1, a2 | ⟨g', cap', cur', a2, a3, a4, a5⟩⟩ := HOWN.out
      · exact ⟨a1, .inl a2⟩
      · exact ⟨a1, .inr ⟨g', cap', cur', a2, by omega, hFe.blk a4 (by omega), a5⟩⟩
    exact fin _ (Fr.setCell (S := fun i => i = w.heap.size) (p := ⟨w.heap.size, 3, none⟩) (Fr.setCell (S := fun i => i = w.heap.size) (p := ⟨w.heap.size, 2, none⟩) (Fr.setCell (S := fun i => i = w.heap.size) (p := ⟨w.heap.size, 1, none⟩) (Fr.setCell (S := fun i => i = w.heap.size) (p := ⟨w.heap.size, 0, none⟩) (Fr.refl _ _) (fun _ => rfl) _) (fun _ => rfl) _) (fun _ => rfl) _) (fun _ => rfl) _)
end Go.Proofs.YteokhhepnoelhaaGreatDoor

set_option linter.unusedVariables false
set_option linter.unusedSimpArgs false
namespace Go.Proofs.YteokhhepnoelhaaGreatDoor
open Go.RowKit

/-- NumDigits answers nd at every decimal that holds V. -/
def DigOk (V : Nat) (nd : Int) : Prop := ∀ (D : Nat) (f : Int) (n : Bool) (e0 : Int) (v : Value) (w : World), DecAt w D f n e0 false v false → NatAt w v (limbs V) → Thr w →
  Calls Tryz.prog 88 #[.pointer (some ⟨D, 0, none⟩)] w fun e w' => e = .returned (.int .i64 nd) ∧ Fr NoB w w'

theorem digOk_same (V b d : Nat) (hb : blen V = b) (hb1 : 1 ≤ b) (hb2 : b < 128) (hd : tabDigits b = d) (ht : tabDigits (b + 1) = d) : DigOk V (d : Int) := by
  intro D f n e0 v w hD hv hT
  have hN := hid (numDigits_same D 3 v V b d w (by rw [blk_cell hD]; rfl) hv hT hb hb1 hb2 hd ht)
  clear hD hv hT hb hd ht
  go_enter Tryz.func88, Tryz.ntmps88
  go_wp2_with fail
  refine hN.out.mono ?_
  rintro e w1 ⟨rfl, hF⟩
  have HF := hid hF
  clear hF
  go_wp2_with fail
  go_ret
  exact ⟨rfl, HF.out⟩

def NumRes (w : World) (D : Nat) (neg : Bool) (V : Nat) (e0 : Int) (e : Ending) (w' : World) : Prop :=
  e = .returned (.tuple #[.pointer (some ⟨D, 0, none⟩), .int .u32 0, .nilIface]) ∧ ∃ v, NatAt w' v (limbs V) ∧ DecAt w' D 0 neg e0 false v false ∧ Fr (fun i => i = D) w w'

set_option maxRecDepth 100000 in
set_option maxHeartbeats 1000000 in
theorem ctxSetString_num (D cb : Nat) (l : List UInt8) (neg : Bool) (ds : List UInt8) (es : List Int) (nd : Int) (w : World) (traps : Int) (r : ByteArray) (hC : CtxAt w cb 0 100000 (-100000) traps r) (hne : cb ≠ D) (hT : Thr w) (hD19 : 19 ≤ D) (hDl : D < w.heap.size)
    (hN : DigOk (decVal ds) nd) (hnd : 1 ≤ nd) (hnd' : nd ≤ 1000) (helo : -90000 ≤ es.sum) (hehi : es.sum ≤ 90000)
    (hS : Calls Tryz.prog 41 #[.pointer (some ⟨D, 0, none⟩), .pointer (some ⟨cb, 0, none⟩), .string ⟨l.toArray⟩] w (GoodEnd w D neg ds es)) :
    Calls Tryz.prog 30 #[.pointer (some ⟨cb, 0, none⟩), .pointer (some ⟨D, 0, none⟩), .string ⟨l.toArray⟩] w (NumRes w D neg (decVal ds) es.sum) := by
  have HC := hid hC; have HS := hid hS; have HT := hid hT; have HN := hid hN
  clear hC hS hT hN
  go_enter Tryz.func30, Tryz.ntmps30
  go_wp2_with fail
  refine HS.out.mono ?_
  rintro e w1 ⟨rfl, v, hv, hD1, hF1, hg⟩
  obtain ⟨A, c, hsh⟩ := hv.shape
  have hT1 := HT.out.fr hF1 (fun i hi h => by have h : i = D := h; omega)
  have hR := round_zero D cb 0 neg es.sum false A (limbs (decVal ds)).length c false nd w1 (by rw [← hsh]; exact hD1) traps r (HC.out.fr hF1 hne) (by omega) (by omega) hnd hnd' (by omega) (by omega) (HN.out D 0 neg es.sum v w1 hD1 hv hT1)
  rw [← hsh] at hR
  have HR := hid hR; have HV := hid hv; have HG := hid hg; have HF1 := hid hF1
  clear hR hv hg hF1 hD1 hT1 hsh
  go_wp2_with fail
  refine HR.out.mono ?_
  rintro e w2 ⟨rfl, hD2, hF2⟩
  have hN : NumRes w D neg (decVal ds) es.sum (.returned (.tuple #[.pointer (some ⟨D, 0, none⟩), .int .u32 0, .nilIface])) w2 :=
    ⟨rfl, v, HV.out.fr hF2 (fun g hg h => by have h : g = D := h; have := HG.out g hg; omega), hD2, HF1.out.trans hF2 (fun _ _ h => h)⟩
  have N := hid hN
  clear hD2 hF2 hN
  go_wp2_with (go_at_call 43; go_in)
  go_ret3
  exact N.out

/-- impl.Parse at a number. -/
def ParseRes (w : World) (neg : Bool) (V : Nat) (e0 : Int) (e : Ending) (w' : World) : Prop :=
  ∃ A n c, e = .returned (.tuple #[.agg #[.int .i64 0, .bool neg, .slice A n c, .int .i64 e0], .int .i64 0, .bool true]) ∧ w'.ownsRow w.heap.size 36 1 (.slice A n c) (limbs V).length (u64s (limbs V)) ∧ Fr NoB w w'

set_option maxRecDepth 100000 in
set_option maxHeartbeats 1000000 in
theorem parse_num (l : List UInt8) (neg : Bool) (ds : List UInt8) (es : List Int) (nd : Int) (w : World) (r : ByteArray) (hC : CtxAt w 0 0 100000 (-100000) 1967 r) (hT : Thr w)
    (hN : DigOk (decVal ds) nd) (hnd : 1 ≤ nd) (hnd' : nd ≤ 1000) (helo : -90000 ≤ es.sum) (hehi : es.sum ≤ 90000) (hlen : (limbs (decVal ds)).length ≤ 900)
    (hS : ∀ (D : Nat) (w1 : World), DecAt w1 D 0 false 0 false (.slice none 0 0) false → Fr NoB w w1 → w.heap.size ≤ D → Calls Tryz.prog 41 #[.pointer (some ⟨D, 0, none⟩), .pointer (some ⟨0, 0, none⟩), .string ⟨l.toArray⟩] w1 (GoodEnd w1 D neg ds es)) :
    Calls Tryz.prog 9 #[.string ⟨l.toArray⟩] w (ParseRes w neg (decVal ds) es.sum) := by
  have HC := hid hC; have HS := hid hS; have HT := hid hT; have HN := hid hN
  have h19 := hT.size
  clear hC hS hT hN
  go_enter Tryz.func9, Tryz.ntmps9
  go_wp2_with (first | (go_at_call 23; go_in) | (go_at_call 37; go_in))
  have hR0 : ((w.alloc (.cells #[.int .i64 0, .bool false, .slice none 0 0, .int .i64 0] 30)).alloc (.cells #[.int .i8 0, .bool false, .int .i32 0, .bool false, .slice none 0 0, .bool false] 72)).heap[w.heap.size]? = some (.cells #[.int .i64 0, .bool false, .slice none 0 0, .int .i64 0] 30 (0, 0)) :=
    blk_alloc (blk_new w _) _
  have hD0 : DecAt ((w.alloc (.cells #[.int .i64 0, .bool false, .slice none 0 0, .int .i64 0] 30)).alloc (.cells #[.int .i8 0, .bool false, .int .i32 0, .bool false, .slice none 0 0, .bool false] 72)) (w.heap.size + 1) 0 false 0 false (.slice none 0 0) false := by
    have := blk_new (w.alloc (.cells #[.int .i64 0, .bool false, .slice none 0 0, .int .i64 0] 30)) (.cells #[.int .i8 0, .bool false, .int .i32 0, .bool false, .slice none 0 0, .bool false] 72 (0, 0))
    rw [World.size_alloc] at this
    exact this
  have hF0 : Fr NoB w ((w.alloc (.cells #[.int .i64 0, .bool false, .slice none 0 0, .int .i64 0] 30)).alloc (.cells #[.int .i8 0, .bool false, .int .i32 0, .bool false, .slice none 0 0, .bool false] 72)) :=
    ((Fr.refl _ _).alloc _).alloc _
  have HR0 := hid hR0; have HD0 := hid hD0; have HF0 := hid hF0
  clear hR0 hD0 hF0
  generalize hW : ((w.alloc (.cells #[.int .i64 0, .bool false, .slice none 0 0, .int .i64 0] 30)).alloc (.cells #[.int .i8 0, .bool false, .int .i32 0, .bool false, .slice none 0 0, .bool false] 72)) = W at *
  clear hW
  have hWl : w.heap.size + 1 < W.heap.size := blk_lt HD0.out
  refine (ctxSetString_num (w.heap.size + 1) 0 l neg ds es nd W 1967 r (HC.out.fr HF0.out (fun h => h)) (by omega) (HT.out.fr HF0.out (fun _ _ h => h)) (by omega) hWl HN.out hnd hnd' helo hehi (HS.out _ _ HD0.out HF0.out (by omega))).mono ?_
  rintro e w1 ⟨rfl, v, hv1, hD1, hF1⟩
  have HR1 := hid (hF1.blk HR0.out (by omega))
  have HD1 := hid hD1; have HV1 := hid hv1
  have HF1 := hid ((HF0.out.trans hF1 (fun i hi h => by omega) : Fr NoB w w1))
  clear hD1 hF1 hv1
  go_wp2_with fail
  refine (told_num _ neg es.sum v (decVal ds) _ HD1.out HV1.out hlen (by omega) (by omega)).mono ?_
  rintro e w2 ⟨A, n, c, rfl, hown, hF2⟩
  have hR2 := hF2.blk HR1.out (fun h => h)
  have HF2 := hid (HF1.out.trans hF2 (fun _ _ h => h)); have HOWN := hid hown
  have hR1l := blk_lt HR1.out
  have r0 := blk_cell hR2 0; have r1 := blk_cell hR2 1; have r2 := blk_cell hR2 2; have r3 := blk_cell hR2 3
  have g0 := blk_frozen hR2 0; have g1 := blk_frozen hR2 1; have g2 := blk_frozen hR2 2; have g3 := blk_frozen hR2 3
  clear hF2 hR2 hown
  simp only [List.getElem?_toArray, List.getElem?_cons_zero, List.getElem?_cons_succ] at r0 r1 r2 r3
  go_wp2_with (go_at_call 24; refine (conditions_0 _).mono ?_; rintro e w3 ⟨rfl, rfl⟩)
  refine bodyPost_ret (v := .tuple #[.agg #[.int .i64 0, .bool neg, .slice A n c, .int .i64 es.sum], .int .i64 0, .bool true]) (by simp [results, Tryz.results9, go_sem, r0, r1, r2, r3]) rfl ?_
  have fin : ∀ a : World, Fr (fun i => i = w.heap.size) w2 a → ParseRes w neg (decVal ds) es.sum (.returned (.tuple #[.agg #[.int .i64 0, .bool neg, .slice A n c, .int .i64 es.sum], .int .i64 0, .bool true])) a := by
    intro a hFe
    refine ⟨A, n, c, rfl, ?_, HF2.out.trans hFe (fun i hi h => by omega)⟩
    obtain ⟨a1, a2 | ⟨g', cap', cur', a2, a3, a4, a5⟩⟩ := HOWN.out
    · exact ⟨a1, .inl a2⟩
    · exact ⟨a1, .inr ⟨g', cap', cur', a2, by omega, hFe.blk a4 (by omega), a5⟩⟩
  exact fin _ (Fr.setCell (S := fun i => i = w.heap.size) (p := ⟨w.heap.size, 3, none⟩) (Fr.setCell (S := fun i => i = w.heap.size) (p := ⟨w.heap.size, 2, none⟩) (Fr.setCell (S := fun i => i = w.heap.size) (p := ⟨w.heap.size, 1, none⟩) (Fr.setCell (S := fun i => i = w.heap.size) (p := ⟨w.heap.size, 0, none⟩) (Fr.refl _ _) (fun _ => rfl) _) (fun _ => rfl) _) (fun _ => rfl) _) (fun _ => rfl) _)
end Go.Proofs.YteokhhepnoelhaaGreatDoor

set_option linter.unusedVariables false
set_option linter.unusedSimpArgs false
namespace Go.Proofs.YteokhhepnoelhaaGreatDoor
open Go.RowKit

theorem expSets_all (cb D : Nat) (neg : Bool) (ds : List UInt8) (es : List Int) (X : Nat) (v : Value) (nd : Int) (w1 : World) (B : Nat) (hes : SmallEs es 2) (hX : ExpsAt w1 B X es) (hD : DecAt w1 D 0 neg 0 false v false)
    (prec traps : Int) (r : ByteArray) (hC : CtxAt w1 cb prec 100000 (-100000) traps r) (hnd : 1 ≤ nd) (hnd' : nd ≤ 1000)
    (hN : Calls Tryz.prog 88 #[.pointer (some ⟨D, 0, none⟩)] w1 fun e w' => e = .returned (.int .i64 nd) ∧ Fr NoB w1 w') : ExpSets cb D neg ds es X w1 := by
  obtain ⟨h1, h2⟩ := hes
  unfold ExpSets
  match es, h1, h2, hX with
  | [], _, _, _ => exact setExponent_none_asked D cb 0 neg 0 false v false nd 0 X 2 w1 hD prec traps r hC hnd hnd' (by omega) (by omega) (.inl rfl) hN
  | [a], _, h2, hX =>
    have ha := h2 a (by simp)
    have := setExponent_one_asked D cb 0 neg 0 false v false nd 0 a X 2 w1 hD prec traps r hC (hX.cell 0 a rfl) (by omega) (by omega) hnd hnd' (by omega) (by omega) (.inl rfl) hN
    rw [show [a].sum = a by simp]
    exact this
  | [a, b], _, h2, hX =>
    have ha := h2 a (by simp)
    have hb := h2 b (by simp)
    have := setExponent_two_asked D cb 0 neg 0 false v false nd 0 a b X 2 w1 hD prec traps r hC (hX.cell 0 a rfl) (hX.cell 1 b rfl) (by omega) (by omega) (by omega) (by omega) (by omega) (by omega) hnd hnd' (by omega) (by omega) (.inl rfl) hN
    rw [show [a, b].sum = a + b by simp]
    exact this
  | _ :: _ :: _ :: _, h1, _, _ => exact absurd h1 (by simp only [List.length_cons]; omega)

theorem SmallEs.sum {es : List Int} (h : SmallEs es 2) : -40000 ≤ es.sum ∧ es.sum ≤ 40000 := by
  obtain ⟨h1, h2⟩ := h
  match es, h1, h2 with
  | [], _, _ => simp
  | [a], _, h2 => have ha := h2 a (by simp); simp; omega
  | [a, b], _, h2 => have ha := h2 a (by simp); have hb := h2 b (by simp); simp; omega
  | _ :: _ :: _ :: _, h1, _ => exact absurd h1 (by simp only [List.length_cons]; omega)

/-- setString at a text that is a number by its shape. -/
theorem setString_text (l ds : List UInt8) (neg : Bool) (e : Int) (nd : Int) (w w1 : World) (D cb : Nat) {a : Addr} {tpS tpR : TypeId} {pS pR : Value} {r : ByteArray} (hV : Vars w a tpS tpR pS pR r) (hT : Thr w) (h : NumLow l neg ds e) (hl : l.length ≤ 250)
    (hN : DigOk (decVal ds) nd) (hnd : 1 ≤ nd) (hnd' : nd ≤ 1000) (hD : DecAt w1 D 0 false 0 false (.slice none 0 0) false) (hF : Fr NoB w w1) (hge : w.heap.size ≤ D)
    (prec traps : Int) (rr : ByteArray) (hC : ∀ wx, Fr (fun i => i = D) w1 wx → CtxAt wx cb prec 100000 (-100000) traps rr) :
    Calls Tryz.prog 41 #[.pointer (some ⟨D, 0, none⟩), .pointer (some ⟨cb, 0, none⟩), .string ⟨l.toArray⟩] w1 (fun en w' => ∃ es, es.sum = e ∧ SmallEs es 2 ∧ GoodEnd w1 D neg ds es en w') := by
  have h19 := hT.size
  have hL := lowerAt D false l w w1 hV hF hge (by omega)
  have hVx : ∀ wx, Fr (fun i => i = D) w1 wx → Vars wx a tpS tpR pS pR r := fun wx hx =>
    hV.below (((hF.mono (S' := fun i => i = D) (fun _ _ h => h.elim)).trans hx (fun _ _ h => h)).to_below (Nat.le_refl _) (fun i hi h => by have : i = D := h; omega))
  have hTx : ∀ wx, Fr (fun i => i = D) w1 wx → Thr wx := fun wx hx => (hT.fr hF (fun _ _ h => h)).fr hx (fun i hi h => by have h : i = D := h; omega)
  obtain ⟨es, r1, r2, r3⟩ := h.read
  refine (setString_num D cb false l _ w1 hD hL (by omega) h.pre1 h.pre2 h.no_n (by have := h.len; omega) tpS tpR pS pR (fun wx hx => (hVx wx hx).eS) (fun wx hx => (hVx wx hx).eR) (by omega) a (hVx w1 (Fr.refl _ _)).eof ?_).mono ?_
  · intro ds' es' v X w2 h' hv hD2 hF2 hg hE hX
    rw [r1] at h'
    cases h'
    rw [h.neg] at hD2 ⊢
    exact expSets_all cb D neg ds es X v nd w2 _ r3 hE hD2 prec traps rr (hC w2 hF2) hnd hnd' (hN D 0 neg 0 v w2 hD2 hv (hTx w2 hF2))
  · intro en w' h'
    unfold NumEnd at h'
    rw [r1, h.neg] at h'
    exact ⟨es, r2, r3, h'⟩

/-- impl.Parse at a text that is a number by its shape. -/
theorem parse_text (l ds : List UInt8) (neg : Bool) (e : Int) (nd : Int) (w : World) {a : Addr} {tpS tpR : TypeId} {pS pR : Value} {r : ByteArray} (hV : Vars w a tpS tpR pS pR r) (hT : Thr w) (h : NumLow l neg ds e) (hl : l.length ≤ 250)
    (hN : DigOk (decVal ds) nd) (hnd : 1 ≤ nd) (hnd' : nd ≤ 1000) (hlen : (limbs (decVal ds)).length ≤ 900) :
    Calls Tryz.prog 9 #[.string ⟨l.toArray⟩] w (ParseRes w neg (decVal ds) e) := by
  obtain ⟨es, r1, r2, r3⟩ := h.read
  have hs := r3.sum
  rw [← r2]
  refine parse_num l neg ds es nd w r hV.ctx hT hN hnd hnd' (by omega) (by omega) hlen ?_
  intro D w1 hD hF hge
  refine (setString_text l ds neg e nd w w1 D 0 hV hT h hl hN hnd hnd' hD hF hge 0 1967 r (fun wx hx => ?_)).mono ?_
  · exact (hV.below (((hF.mono (S' := fun i => i = D) (fun _ _ h => h.elim)).trans hx (fun _ _ h => h)).to_below (Nat.le_refl _) (fun i hi h => by have : i = D := h; omega))).ctx
  · rintro en w' ⟨es', s1, s2, en1, v, hv, hD', hF', hg⟩
    rw [s1, ← r2] at hD'
    exact ⟨en1, v, hv, hD', hF', hg⟩
end Go.Proofs.YteokhhepnoelhaaGreatDoor

set_option linter.unusedVariables false
set_option linter.unusedSimpArgs false
namespace Go.Proofs.YteokhhepnoelhaaGreatDoor
open Go.RowKit

theorem eql102_other {a b : Addr} {ca cb : Array Value} {ta tb : TypeId} (w : World) (hne : a ≠ b) (ha : w.heap[a.block]? = some (.cells ca ta (0, 0))) (hb : w.heap[b.block]? = some (.cells cb tb (0, 0))) :
    (binOp .eql 102 (.pointer (some a)) (.pointer (some b))).run Tryz.prog w = .ok (.bool false) w := by
  obtain ⟨j, hj, hz⟩ := info68
  exact run_eql_ptr_apart w Tryz.underlying102 hj hz hne ha hb

set_option maxRecDepth 100000 in
set_option maxHeartbeats 2000000 in
theorem intCmp (D o E p A B : Nat) (ca cb : Array Value) (ta tb : TypeId) (v u : Value) (w : World) (hDE : D ≠ E) (hD : BlkAt w D ca ta) (hE : BlkAt w E cb tb) (a0 : ca[o]? = some (.bool false)) (a1 : ca[o + 1]? = some v) (b0 : cb[p]? = some (.bool false)) (b1 : cb[p + 1]? = some u)
    (hv : NatAt w v (limbs A)) (hu : NatAt w u (limbs B)) :
    Calls Tryz.prog 172 #[.pointer (some ⟨D, o, none⟩), .pointer (some ⟨E, p, none⟩)] w fun e w' => e = .returned (.int .i64 (cmpZ A B)) ∧ Fr NoB w w' := by
  have hq := fun w (h : BlkAt w D ca ta) (h' : BlkAt w E cb tb) => eql102_other (a := ⟨D, o, none⟩) (b := ⟨E, p, none⟩) w (fun e => hDE (congrArg Addr.block e)) h h'
  have hq0 := hq w hD hE
  have k0 : w.cell? ⟨D, o, none⟩ = some (.bool false) := by rw [blk_cell hD]; exact a0
  have k1 : w.cell? ⟨D, o + 1, none⟩ = some v := by rw [blk_cell hD]; exact a1
  have m0 : w.cell? ⟨E, p, none⟩ = some (.bool false) := by rw [blk_cell hE]; exact b0
  have m1 : w.cell? ⟨E, p + 1, none⟩ = some u := by rw [blk_cell hE]; exact b1
  have HC := hid (fun (wx : World) (h : Fr NoB w wx) => natCmp v u A B wx (hv.fr h (fun _ _ h => h)) (hu.fr h (fun _ _ h => h)))
  have HD := hid hD
  obtain ⟨Av, cv, rfl⟩ := hv.shape
  obtain ⟨Au, cu, rfl⟩ := hu.shape
  clear hq hD hE hv hu a0 a1 b0 b1 hDE
  go_enter Tryz.func172, Tryz.ntmps172
  go_wp2_with fail
  go_quiet (fail)
  go_wp2_with fail
  have HN := hid (HC.out (w.drewN nq).drew ((Fr.refl NoB w).drewN nq).drew)
  have HFd := hid ((Fr.refl NoB w).drewN nq).drew
  have HK := hid k0
  clear HC HD hq0
  go_region_with (first | (go_at_call 176; refine HN.out.mono ?_; rintro e w3 ⟨rfl, hF3⟩; have HF3 := hid (HFd.out.trans hF3 (fun _ _ h => h)); have c0 := HF3.out.cell' HK.out (fun h => h); clear hF3))
  all_goals
    go_wp2_with fail
    go_ret
    exact ⟨rfl, HF3.out⟩

set_option maxRecDepth 100000 in
set_option maxHeartbeats 2000000 in
theorem bigCmp (D o E p A B : Nat) (ca cb : Array Value) (ta tb : TypeId) (v u : Value) (w : World) (hDE : D ≠ E) (hD : BlkAt w D ca ta) (hE : BlkAt w E cb tb) (a0 : ca[o]? = some (.bool false)) (a1 : ca[o + 1]? = some v) (a2 : ca[o + 2]? = some (.bool false))
    (b0 : cb[p]? = some (.bool false)) (b1 : cb[p + 1]? = some u) (b2 : cb[p + 2]? = some (.bool false)) (hv : NatAt w v (limbs A)) (hu : NatAt w u (limbs B)) :
    Calls Tryz.prog 142 #[.pointer (some ⟨D, o, none⟩), .pointer (some ⟨E, p, none⟩)] w fun e w' => e = .returned (.int .i64 (cmpZ A B)) ∧ Fr NoB w w' := by
  have k2 : w.cell? ⟨D, o + 2, none⟩ = some (.bool false) := by rw [blk_cell hD]; exact a2
  have m2 : w.cell? ⟨E, p + 2, none⟩ = some (.bool false) := by rw [blk_cell hE]; exact b2
  have HC := hid (fun (wx : World) (h : Fr NoB w wx) => intCmp D o E p A B ca cb ta tb v u wx hDE (h.blk hD (fun h => h)) (h.blk hE (fun h => h)) a0 a1 b0 b1 (hv.fr h (fun _ _ h => h)) (hu.fr h (fun _ _ h => h)))
  clear hD hE hv hu a0 a1 b0 b1 hDE a2 b2
  go_enter Tryz.func142, Tryz.ntmps142
  go_wp2_with fail
  go_quiet (fail)
  go_wp2_with fail
  have HN := hid (HC.out (w.drewN nq).drew ((Fr.refl NoB w).drewN nq).drew)
  have HFd := hid ((Fr.refl NoB w).drewN nq).drew
  clear HC
  go_region_with (first | (go_at_call 172; refine HN.out.mono ?_; rintro e w3 ⟨rfl, hF3⟩; have HF3 := hid (HFd.out.trans hF3 (fun _ _ h => h)); clear hF3))
  all_goals
    go_wp2_with fail
    go_ret
    exact ⟨rfl, HF3.out⟩
end Go.Proofs.YteokhhepnoelhaaGreatDoor

set_option linter.unusedVariables false
set_option linter.unusedSimpArgs false
namespace Go.Proofs.YteokhhepnoelhaaGreatDoor
open Go.RowKit

/-- The digits of V, the row of the table being d. -/
def ndOf (V d : Nat) : Int := if V < 10 ^ d then (d : Int) else (d : Int) + 1
def NdRes (w : World) (V d : Nat) (e : Ending) (w' : World) : Prop := e = .returned (.int .i64 (ndOf V d)) ∧ Fr NoB w w'
theorem cmpZ_lt {V M : Nat} (h : V < M) : cmpZ V M = -1 := by unfold cmpZ; rw [if_pos h]
theorem cmpZ_ge {V M : Nat} (h : ¬ V < M) : cmpZ V M = 0 ∨ cmpZ V M = 1 := by unfold cmpZ; rw [if_neg h]; split <;> simp

set_option maxRecDepth 100000 in
set_option maxHeartbeats 2000000 in
theorem numDigits_differ (D o : Nat) (ca : Array Value) (ta : TypeId) (v : Value) (V b d d' : Nat) (w : World) (hD : BlkAt w D ca ta) (a0 : ca[o]? = some (.bool false)) (a1 : ca[o + 1]? = some v) (a2 : ca[o + 2]? = some (.bool false)) (hv : NatAt w v (limbs V)) (hT : Thr w) (hb : blen V = b) (hb1 : 1 ≤ b) (hb2 : b < 128) (hd : tabDigits b = d) (ht : tabDigits (b + 1) = d') (hdd : d ≠ d') (hV : V ≠ 0) (hdz : d ≤ 100) :
    Calls Tryz.prog 132 #[.pointer (some ⟨D, o, none⟩)] w (NdRes w V d) := by
  have h1 : w.cell? ⟨D, o + 1, none⟩ = some v := by rw [blk_cell hD]; exact a1
  have HB := bigBitLen D o v V w h1 hv
  rw [hb] at HB
  have HB := hid HB
  have HTB := digitsLookup b w hT hb1 (by omega)
  unfold TabRes at HTB
  rw [hd] at HTB
  have HTB := hid HTB
  clear hd
  have HT := hid hT
  have b0 : ((b : Int) == 0) = false := beq_eq_false_iff_ne.2 (by omega)
  have b1 : decide ((b : Int) < 128) = true := decide_eq_true (by omega)
  have b2 : (b : Int) ≤ 128 := by omega
  have b3 : IntKind.i64.wrap ((b : Int) + 1) = (b : Int) + 1 := IntWalk.i64_in _ (by omega)
  have hlt : (b : Int) < 128 := by omega
  have B4 := hid (show ((d' : Int) == (d : Int)) = false from beq_eq_false_iff_ne.2 (by omega))
  have HD := hid hD; have HV := hid hv; have HA0 := hid a0; have HA1 := hid a1; have HA2 := hid a2
  have HVZ := hid hV; have HDD := hid hdd; have HDZ := hid hdz
  clear h1 hv hT hb hD a0 a1 a2 hV hdd hdz
  go_enter Tryz.func132, Tryz.ntmps132
  go_wp2_with fail
  refine HB.out.mono ?_
  rintro e w1 ⟨rfl, rfl⟩
  go_wp2_with fail
  refine HTB.out.mono ?_
  rintro e w2 ⟨E, v1, v2, rfl, hEl, hE, hn, hF⟩
  have hFd : Fr NoB w2 w2.drew := (Fr.refl _ _).drew
  have hN := digitsLookup (b + 1) w2.drew ((HT.out.fr hF (fun _ _ h => h)).fr hFd (fun _ _ h => h)) (by omega) (by omega)
  rw [show ((b + 1 : Nat) : Int) = (b : Int) + 1 by omega] at hN
  unfold TabRes at hN
  rw [ht] at hN
  have HN := hid hN
  have e0 : w2.cell? ⟨E, 0, none⟩ = some (.int .i64 (d : Int)) := by rw [blk_cell hE]; rfl
  have e0d : w2.drew.cell? ⟨E, 0, none⟩ = some (.int .i64 (d : Int)) := e0
  have HE := hid hE; have HF := hid hF; have HN1 := hid hn; have HEL := hid hEl
  clear hE hn hF hFd hN ht hEl
  go_wp2_with fail
  go_region_with (first | (go_at_call 166; refine HN.out.mono ?_; rintro e w3 ⟨E', v1', v2', rfl, hEl', hE', hn', hF'⟩; have k3 : w3.cell? ⟨E', 0, none⟩ = some (.int .i64 (d' : Int)) := (by rw [blk_cell hE']; rfl); have k4 : w3.cell? ⟨E, 0, none⟩ = some (.int .i64 (d : Int)) := hF'.cell' e0d (fun h => h); have HF3 := hid (show Fr NoB w w3 from HF.out.drew.trans hF' (fun _ _ h => h)); have HG3 := hid (show Fr NoB w2 w3 from (Fr.refl NoB w2).drew.trans hF' (fun _ _ h => h)); clear hE' hn' hF'))
  all_goals
    have HS : Hid (Calls Tryz.prog 103 #[.pointer (some ⟨D, o, none⟩)] w3 fun e w' => e = .returned (.int .i64 1) ∧ w3 = w') := hid (by
      obtain ⟨n, hn⟩ : ∃ n, (limbs V).length = n := ⟨_, rfl⟩
      have hn1 : 1 ≤ n := by have := limbs_len_pos HVZ.out; omega
      obtain ⟨Av, cv, hvs⟩ := HV.out.shape
      rw [hn] at hvs
      have hD3 : BlkAt w3 D ca ta := HF3.out.blk HD.out (fun h => h)
      have := bigSign_any D o false Av n cv false w3 (by rw [blk_cell hD3]; exact HA0.out) (by rw [blk_cell hD3]; rw [HA1.out, hvs]) (by rw [blk_cell hD3]; exact HA2.out)
      rw [show bigSign false n false = 1 by unfold bigSign; rw [if_neg (by simp), if_neg (by omega), if_neg (by simp)]] at this
      exact this)
    have HC : Hid (Calls Tryz.prog 142 #[.pointer (some ⟨D, o, none⟩), .pointer (some ⟨E, 1, none⟩)] w3 fun e w' => e = .returned (.int .i64 (cmpZ V (10 ^ d))) ∧ Fr NoB w3 w') := hid (by
      have hD3 : BlkAt w3 D ca ta := HF3.out.blk HD.out (fun h => h)
      have hE3 := HG3.out.blk HE.out (fun h => h)
      have hDlt := blk_lt HD.out
      have hEl := HEL.out
      exact bigCmp D o E 1 V (10 ^ d) ca _ ta 219 v v1 w3 (by omega) hD3 hE3 HA0.out HA1.out HA2.out rfl rfl rfl (HV.out.fr HF3.out (fun _ _ h => h)) (HN1.out.fr HG3.out (fun _ _ h => h)))
    have b4 := B4.out
    have b5 : ¬ (d' : Int) = (d : Int) := by have := HDD.out; omega
    have hd1 : (d : Int) ≤ 100 := by have := HDZ.out; omega
    go_wp2_with (first | (go_at_call 103; refine HS.out.mono ?_; rintro e w4 ⟨rfl, rfl⟩))
    refine HC.out.mono ?_
    rintro e w4 ⟨rfl, hF4⟩
    have k5 : w4.cell? ⟨E, 0, none⟩ = some (.int .i64 (d : Int)) := hF4.cell' k4 (fun h => h)
    have HF4 := hid (HF3.out.trans hF4 (fun _ _ h => h))
    clear hF4
    by_cases hlt2 : V < 10 ^ d
    · have N := hid (show NdRes w V d (.returned (.int .i64 (d : Int))) w4 from ⟨by rw [ndOf, if_pos hlt2], HF4.out⟩)
      rw [cmpZ_lt hlt2]
      clear hlt2
      go_wp2_with fail
      go_ret
      exact N.out
    · have N := hid (show NdRes w V d (.returned (.int .i64 ((d : Int) + 1))) w4 from ⟨by rw [ndOf, if_neg hlt2], HF4.out⟩)
      rcases cmpZ_ge hlt2 with h | h
      all_goals
        rw [h]
        clear hlt2 h
        go_wp2_with fail
        go_ret
        exact N.out

set_option maxRecDepth 100000 in
set_option maxHeartbeats 2000000 in
theorem numDigits_128 (D o : Nat) (ca : Array Value) (ta : TypeId) (v : Value) (V b d : Nat) (w : World) (hD : BlkAt w D ca ta) (a0 : ca[o]? = some (.bool false)) (a1 : ca[o + 1]? = some v) (a2 : ca[o + 2]? = some (.bool false)) (hv : NatAt w v (limbs V)) (hT : Thr w) (hb : blen V = b) (hb2 : b = 128) (hd : tabDigits b = d) (hV : V ≠ 0) (hdz : d ≤ 100) :
    Calls Tryz.prog 132 #[.pointer (some ⟨D, o, none⟩)] w (NdRes w V d) := by
  have h1 : w.cell? ⟨D, o + 1, none⟩ = some v := by rw [blk_cell hD]; exact a1
  have HB := bigBitLen D o v V w h1 hv
  rw [hb] at HB
  have HB := hid HB
  have HTB := digitsLookup b w hT (by omega) (by omega)
  unfold TabRes at HTB
  rw [hd] at HTB
  have HTB := hid HTB
  clear hd
  have HT := hid hT
  have b0 : ((b : Int) == 0) = false := beq_eq_false_iff_ne.2 (by omega)
  have b1 : decide ((b : Int) < 128) = false := decide_eq_false (by omega)
  have b2 : (b : Int) ≤ 128 := by omega
  have b3 : ¬ (b : Int) < 128 := by omega
  have HD := hid hD; have HV := hid hv; have HA0 := hid a0; have HA1 := hid a1; have HA2 := hid a2
  have HVZ := hid hV; have HDZ := hid hdz
  clear h1 hv hT hb hD a0 a1 a2 hV hdz hb2
  go_enter Tryz.func132, Tryz.ntmps132
  go_wp2_with fail
  refine HB.out.mono ?_
  rintro e w1 ⟨rfl, rfl⟩
  go_wp2_with fail
  refine HTB.out.mono ?_
  rintro e w2 ⟨E, v1, v2, rfl, hEl, hE, hn, hF⟩
  have e0 : w2.cell? ⟨E, 0, none⟩ = some (.int .i64 (d : Int)) := by rw [blk_cell hE]; rfl
  have HE := hid hE; have HF := hid hF; have HN1 := hid hn; have HEL := hid hEl
  clear hE hn hF hEl
  go_wp2_with fail
  go_quiet (fail)
  have HG3 := hid (show Fr NoB w2 (w2.drewN nq) from (Fr.refl NoB w2).drewN _)
  have HF3 := hid (show Fr NoB w (w2.drewN nq) from HF.out.trans HG3.out (fun _ _ h => h))
  have k4 : (w2.drewN nq).cell? ⟨E, 0, none⟩ = some (.int .i64 (d : Int)) := e0
  generalize w2.drewN nq = w3 at *
  have HS : Hid (Calls Tryz.prog 103 #[.pointer (some ⟨D, o, none⟩)] w3 fun e w' => e = .returned (.int .i64 1) ∧ w3 = w') := hid (by
    obtain ⟨n, hn⟩ : ∃ n, (limbs V).length = n := ⟨_, rfl⟩
    have hn1 : 1 ≤ n := by have := limbs_len_pos HVZ.out; omega
    obtain ⟨Av, cv, hvs⟩ := HV.out.shape
    rw [hn] at hvs
    have hD3 : BlkAt w3 D ca ta := HF3.out.blk HD.out (fun h => h)
    have := bigSign_any D o false Av n cv false w3 (by rw [blk_cell hD3]; exact HA0.out) (by rw [blk_cell hD3]; rw [HA1.out, hvs]) (by rw [blk_cell hD3]; exact HA2.out)
    rw [show bigSign false n false = 1 by unfold bigSign; rw [if_neg (by simp), if_neg (by omega), if_neg (by simp)]] at this
    exact this)
  have HC : Hid (Calls Tryz.prog 142 #[.pointer (some ⟨D, o, none⟩), .pointer (some ⟨E, 1, none⟩)] w3 fun e w' => e = .returned (.int .i64 (cmpZ V (10 ^ d))) ∧ Fr NoB w3 w') := hid (by
    have hD3 : BlkAt w3 D ca ta := HF3.out.blk HD.out (fun h => h)
    have hE3 := HG3.out.blk HE.out (fun h => h)
    have hDlt := blk_lt HD.out
    have hEl := HEL.out
    exact bigCmp D o E 1 V (10 ^ d) ca _ ta 219 v v1 w3 (by omega) hD3 hE3 HA0.out HA1.out HA2.out rfl rfl rfl (HV.out.fr HF3.out (fun _ _ h => h)) (HN1.out.fr HG3.out (fun _ _ h => h)))
  have hd1 : (d : Int) ≤ 100 := by have := HDZ.out; omega
  go_wp2_with (first | (go_at_call 103; refine HS.out.mono ?_; rintro e w4 ⟨rfl, rfl⟩))
  refine HC.out.mono ?_
  rintro e w4 ⟨rfl, hF4⟩
  have k5 : w4.cell? ⟨E, 0, none⟩ = some (.int .i64 (d : Int)) := hF4.cell' k4 (fun h => h)
  have HF4 := hid (HF3.out.trans hF4 (fun _ _ h => h))
  clear hF4
  by_cases hlt2 : V < 10 ^ d
  · have N := hid (show NdRes w V d (.returned (.int .i64 (d : Int))) w4 from ⟨by rw [ndOf, if_pos hlt2], HF4.out⟩)
    rw [cmpZ_lt hlt2]
    clear hlt2
    go_wp2_with fail
    go_ret
    exact N.out
  · have N := hid (show NdRes w V d (.returned (.int .i64 ((d : Int) + 1))) w4 from ⟨by rw [ndOf, if_neg hlt2], HF4.out⟩)
    rcases cmpZ_ge hlt2 with h | h
    all_goals
      rw [h]
      clear hlt2 h
      go_wp2_with fail
      go_ret
      exact N.out
end Go.Proofs.YteokhhepnoelhaaGreatDoor

set_option linter.unusedVariables false
set_option linter.unusedSimpArgs false
namespace Go.Proofs.YteokhhepnoelhaaGreatDoor
open Go.RowKit

def ndBig (V d : Nat) : Int := if V < 10 ^ d then (d : Int) else (d : Int) + 1
def NdBig (w : World) (V d : Nat) (e : Ending) (w' : World) : Prop := e = .returned (.int .i64 (ndBig V d)) ∧ Fr NoB w w'
theorem cmpZ_below {V M : Nat} (h : V < M) : cmpZ V M = -1 := by unfold cmpZ; rw [if_pos h]
theorem cmpZ_above {V M : Nat} (h : ¬ V < M) : cmpZ V M = 0 ∨ cmpZ V M = 1 := by unfold cmpZ; rw [if_neg h]; split <;> simp

theorem back_step2 (x : Nat) (w : World) : (convert 220 2 (.float .f64 x)).run Tryz.prog w = (Conv.floatToInt .f64 x .i64).run Tryz.prog w := by kernel_rfl

set_option maxRecDepth 100000 in
set_option maxHeartbeats 2000000 in
theorem numDigits_big (D o : Nat) (ca : Array Value) (ta : TypeId) (v : Value) (V b n : Nat) (w : World) (hD : BlkAt w D ca ta) (a0 : ca[o]? = some (.bool false)) (a1 : ca[o + 1]? = some v) (a2 : ca[o + 2]? = some (.bool false)) (hv : NatAt w v (limbs V)) (hT : Thr w) (hb : blen V = b) (hb1 : 129 ≤ b) (hb2 : b < 300) (hbn : b * 30103 / 100000 = n) (hV : V ≠ 0) :
    Calls Tryz.prog 132 #[.pointer (some ⟨D, o, none⟩)] w (NdBig w V n) := by
  have h1 : w.cell? ⟨D, o + 1, none⟩ = some v := by rw [blk_cell hD]; exact a1
  have HB := bigBitLen D o v V w h1 hv
  rw [hb] at HB
  have HB := hid HB
  obtain ⟨f, q, c1, c2, c3⟩ := places_facts b hb2
  have hn1 : 1 ≤ n := by omega
  have hn2 : n ≤ 100 := by omega
  rw [hbn] at c3
  have c3 : ∀ w, (convert 220 2 (.float .f64 q)).run Tryz.prog w = .ok (.int .i64 (n : Int)) w := fun w => by rw [back_step2, ← back_step]; exact c3 w
  have hZ := blk_new w (.cells #[.bool false, .slice none 0 0, .bool false] 70 (0, 0))
  have hF0 : Fr NoB w (w.alloc (.cells #[.bool false, .slice none 0 0, .bool false] 70)) := (Fr.refl _ _).alloc _
  have h19 := hT.size
  have HX := hid (tableExp10 w.heap.size 0 _ 70 false false n (w.alloc (.cells #[.bool false, .slice none 0 0, .bool false] 70)) hZ rfl rfl rfl (hT.fr hF0 (fun _ _ h => h)) hn1 hn2 (by omega))
  have b0 : ((b : Int) == 0) = false := beq_eq_false_iff_ne.2 (by omega)
  have b2 : ¬ (b : Int) ≤ 128 := by omega
  have b3 : (128 : Int) < b := by omega
  have hn3 : (n : Int) ≤ 100 := by omega
  have HD := hid hD; have HV := hid hv; have HA0 := hid a0; have HA1 := hid a1; have HA2 := hid a2
  have HVZ := hid hV; have HF0 := hid hF0
  clear h1 hv hT hb hD a0 a1 a2 hV hZ hF0 hbn hb1 hb2
  go_enter Tryz.func132, Tryz.ntmps132
  go_wp2_with fail
  refine HB.out.mono ?_
  rintro e w1 ⟨rfl, rfl⟩
  go_wp2_with fail
  refine HX.out.mono ?_
  rintro e w3 ⟨rfl, vz, hE3, hvz, hgz, hFz⟩
  have HF3 := hid (show Fr NoB w w3 from HF0.out.trans hFz (fun i hi h => by have h : i = w.heap.size := h; omega))
  have HE3 := hid hE3; have HVz := hid hvz
  clear hE3 hvz hgz hFz
  have HS : Hid (Calls Tryz.prog 103 #[.pointer (some ⟨D, o, none⟩)] w3 fun e w' => e = .returned (.int .i64 1) ∧ w3 = w') := hid (by
    obtain ⟨n, hn⟩ : ∃ n, (limbs V).length = n := ⟨_, rfl⟩
    have hn1 : 1 ≤ n := by have := limbs_len_pos HVZ.out; omega
    obtain ⟨Av, cv, hvs⟩ := HV.out.shape
    rw [hn] at hvs
    have hD3 : BlkAt w3 D ca ta := HF3.out.blk HD.out (fun h => h)
    have := bigSign_any D o false Av n cv false w3 (by rw [blk_cell hD3]; exact HA0.out) (by rw [blk_cell hD3]; rw [HA1.out, hvs]) (by rw [blk_cell hD3]; exact HA2.out)
    rw [show bigSign false n false = 1 by unfold bigSign; rw [if_neg (by simp), if_neg (by omega), if_neg (by simp)]] at this
    exact this)
  have HC : Hid (Calls Tryz.prog 142 #[.pointer (some ⟨D, o, none⟩), .pointer (some ⟨w.heap.size, 0, none⟩)] w3 fun e w' => e = .returned (.int .i64 (cmpZ V (10 ^ n))) ∧ Fr NoB w3 w') := hid (by
    have hD3 : BlkAt w3 D ca ta := HF3.out.blk HD.out (fun h => h)
    have hDlt := blk_lt HD.out
    exact bigCmp D o w.heap.size 0 V (10 ^ n) ca _ ta 70 v vz w3 (by omega) hD3 HE3.out HA0.out HA1.out HA2.out rfl rfl rfl (HV.out.fr HF3.out (fun _ _ h => h)) HVz.out)
  go_wp2_with (first | (go_at_call 103; refine HS.out.mono ?_; rintro e w4 ⟨rfl, rfl⟩))
  refine HC.out.mono ?_
  rintro e w4 ⟨rfl, hF4⟩
  have HF4 := hid (HF3.out.trans hF4 (fun _ _ h => h))
  clear hF4
  by_cases hlt2 : V < 10 ^ n
  · have N := hid (show NdBig w V n (.returned (.int .i64 (n : Int))) w4 from ⟨by rw [ndBig, if_pos hlt2], HF4.out⟩)
    rw [cmpZ_below hlt2]
    clear hlt2
    go_wp2_with fail
    go_ret
    exact N.out
  · have N := hid (show NdBig w V n (.returned (.int .i64 ((n : Int) + 1))) w4 from ⟨by rw [ndBig, if_neg hlt2], HF4.out⟩)
    rcases cmpZ_above hlt2 with h | h
    all_goals
      rw [h]
      clear hlt2 h
      go_wp2_with fail
      go_ret
      exact N.out

theorem numDigits_nought (D o : Nat) (v : Value) (V : Nat) (w : World) (h1 : w.cell? ⟨D, o + 1, none⟩ = some v) (hv : NatAt w v (limbs V)) (hV : V = 0) :
    Calls Tryz.prog 132 #[.pointer (some ⟨D, o, none⟩)] w fun e w' => e = .returned (.int .i64 1) ∧ Fr NoB w w' := by
  have HB := bigBitLen D o v V w h1 hv
  rw [show blen V = 0 by subst hV; rfl] at HB
  have HB := hid HB
  clear h1 hv hV
  go_enter Tryz.func132, Tryz.ntmps132
  go_wp2_with fail
  refine HB.out.mono ?_
  rintro e w1 ⟨rfl, rfl⟩
  go_wp2_with fail
  go_ret
  exact ⟨rfl, Fr.refl _ _⟩
end Go.Proofs.YteokhhepnoelhaaGreatDoor

set_option linter.unusedVariables false
set_option linter.unusedSimpArgs false
namespace Go.Proofs.YteokhhepnoelhaaGreatDoor
open Go.RowKit

theorem nDigits_is {V k : Nat} (h1 : 10 ^ k ≤ V) (h2 : V < 10 ^ (k + 1)) : Lib.nDigits V = k + 1 := Lib.nDigits_unique k V h1 h2
theorem nDigits_between {V d : Nat} (hd : 1 ≤ d) (h1 : 10 ^ (d - 1) ≤ V) (h2 : V < 10 ^ (d + 1)) : ((Lib.nDigits V : Nat) : Int) = if V < 10 ^ d then (d : Int) else (d : Int) + 1 := by
  obtain ⟨k, rfl⟩ : ∃ k, d = k + 1 := ⟨d - 1, by omega⟩
  by_cases h : V < 10 ^ (k + 1)
  · rw [if_pos h, nDigits_is (by simpa using h1) h]
  · rw [if_neg h, nDigits_is (by omega) h2]
    omega
/-- The table's row holds the least number of its bits. -/
theorem tab_between {V b : Nat} (h0 : V ≠ 0) (hb : blen V = b) : 1 ≤ tabDigits b ∧ 10 ^ (tabDigits b - 1) ≤ V ∧ V < 10 ^ (tabDigits b + 1) ∧ V < 2 ^ b := by
  obtain ⟨h1, h2, h3⟩ := blen_bounds h0
  rw [hb] at h1 h2 h3
  have hp : (2 : Nat) ^ (b - 1) ≠ 0 := Nat.ne_of_gt (Nat.pow_pos (by omega))
  have t1 : 10 ^ (tabDigits b - 1) ≤ 2 ^ (b - 1) := pow_le_nDigits _ _ (Nat.le_refl _) hp
  have t2 : 2 ^ (b - 1) < 10 ^ tabDigits b := Lib.lt_pow_nDigits _
  have t3 : (2 : Nat) ^ b = 2 * 2 ^ (b - 1) := by
    obtain ⟨c, rfl⟩ : ∃ c, b = c + 1 := ⟨b - 1, by omega⟩
    rw [Nat.pow_succ, Nat.add_sub_cancel]; omega
  refine ⟨Lib.nDigits_pos _, by omega, ?_, h2⟩
  rw [Nat.pow_succ]
  omega

theorem digOk_of (V : Nat) (nd : Int) (h : ∀ (D : Nat) (f : Int) (n : Bool) (e0 : Int) (v : Value) (w : World), DecAt w D f n e0 false v false → NatAt w v (limbs V) → Thr w →
    Calls Tryz.prog 132 #[.pointer (some ⟨D, 3, none⟩)] w fun e w' => e = .returned (.int .i64 nd) ∧ Fr NoB w w') : DigOk V nd := by
  intro D f n e0 v w hD hv hT
  have hN := hid (h D f n e0 v w hD hv hT)
  clear hD hv hT h
  go_enter Tryz.func88, Tryz.ntmps88
  go_wp2_with fail
  refine hN.out.mono ?_
  rintro e w1 ⟨rfl, hF⟩
  have HF := hid hF
  clear hF
  go_wp2_with fail
  go_ret
  exact ⟨rfl, HF.out⟩

theorem big_all : (List.range 300).all (fun b => decide (129 ≤ b → 10 ^ (b * 30103 / 100000 - 1) ≤ 2 ^ (b - 1) ∧ 2 ^ b ≤ 10 ^ (b * 30103 / 100000 + 1))) = true := by decide +kernel

/-- NumDigits of any BigInt of ours that is not negative. -/
theorem numDigits_any (D o : Nat) (ca : Array Value) (ta : TypeId) (v : Value) (V : Nat) (hb : blen V < 300) (w : World) (hD : BlkAt w D ca ta) (a0 : ca[o]? = some (.bool false)) (a1 : ca[o + 1]? = some v) (a2 : ca[o + 2]? = some (.bool false)) (hv : NatAt w v (limbs V)) (hT : Thr w) :
    Calls Tryz.prog 132 #[.pointer (some ⟨D, o, none⟩)] w fun e w' => e = .returned (.int .i64 ((Lib.nDigits V : Nat) : Int)) ∧ Fr NoB w w' := by
  have h1 : w.cell? ⟨D, o + 1, none⟩ = some v := by rw [blk_cell hD]; exact a1
  by_cases h0 : V = 0
  · have := numDigits_nought D o v V w h1 hv h0
    rw [show Lib.nDigits V = 1 by subst h0; exact Lib.nDigits_small (by omega)]
    exact this
  · obtain ⟨b, hbb⟩ : ∃ b, blen V = b := ⟨_, rfl⟩
    obtain ⟨t1, t2, t3, t4⟩ := tab_between h0 hbb
    have hbp := (blen_bounds h0).2.2
    rw [hbb] at hb hbp
    by_cases hlt : b < 128
    · obtain ⟨d, hd⟩ : ∃ d, tabDigits b = d := ⟨_, rfl⟩
      have hd40 := (tabDigits_bounds hbp (by omega)).2
      rw [hd] at t1 t2 t3 hd40
      by_cases hs : tabDigits (b + 1) = d
      · have h := numDigits_same D o v V b d w h1 hv hT hbb hbp hlt hd hs
        have e : Lib.nDigits V = d := by
          have l1 : V < 10 ^ d := by
            have : 2 ^ (b + 1 - 1) < 10 ^ tabDigits (b + 1) := Lib.lt_pow_nDigits _
            rw [hs, Nat.add_sub_cancel] at this
            omega
          obtain ⟨k, rfl⟩ : ∃ k, d = k + 1 := ⟨d - 1, by omega⟩
          exact nDigits_is (by simpa using t2) l1
        rw [e]
        exact h
      · have h := numDigits_differ D o ca ta v V b d _ w hD a0 a1 a2 hv hT hbb hbp hlt hd rfl (fun h => hs h.symm) h0 (by omega)
        rw [nDigits_between t1 t2 t3]
        exact h
    · by_cases h128 : b = 128
      · obtain ⟨d, hd⟩ : ∃ d, tabDigits b = d := ⟨_, rfl⟩
        have hd40 := (tabDigits_bounds hbp (by omega)).2
        rw [hd] at t1 t2 t3 hd40
        have h := numDigits_128 D o ca ta v V b d w hD a0 a1 a2 hv hT hbb h128 hd h0 (by omega)
        rw [nDigits_between t1 t2 t3]
        exact h
      · have h := numDigits_big D o ca ta v V b (b * 30103 / 100000) w hD a0 a1 a2 hv hT hbb (by omega) hb rfl h0
        have hq := of_decide_eq_true (List.all_eq_true.1 big_all b (by simpa using hb)) (by omega)
        have hbl := blen_bounds h0
        rw [hbb] at hbl
        rw [nDigits_between (d := b * 30103 / 100000) (by omega) (by omega) (by omega)]
        exact h

theorem digOk_all (V : Nat) (hb : blen V < 300) : DigOk V ((Lib.nDigits V : Nat) : Int) :=
  digOk_of V _ fun D f n e0 v w hD hv hT => numDigits_any D 3 _ _ v V hb w hD rfl rfl rfl hv hT
end Go.Proofs.YteokhhepnoelhaaGreatDoor
