/-
  The law FnParseFails: at every text the call returns true and nothing old has changed.
-/
import Derived.Test.YteokhhepnoelhaaGreatDoorFailChain
set_option linter.unusedVariables false
set_option linter.unusedSimpArgs false
namespace Go.Proofs.YteokhhepnoelhaaGreatDoor
open Go.RowKit

def figb (b : UInt8) : Bool := decide (48 ≤ b.toNat ∧ b.toNat ≤ 57)
def oddb (b : UInt8) : Bool := decide (¬ (48 ≤ b.toNat ∧ b.toNat ≤ 57) ∧ b.toNat ≠ 46 ∧ b.toNat ≠ 43 ∧ b.toNat ≠ 45 ∧ b.toNat ≠ 101 ∧ b.toNat ≠ 69)
def ltr (b : UInt8) : Bool := decide (b.toNat = 110 ∨ b.toNat = 78)

theorem ltr_bits (b : UInt8) (h : ltr b = true) : bits BinOp.or IntKind.u8 (b.toNat : Int) 32 = 110 := by
  unfold ltr at h
  rcases of_decide_eq_true h with e | e <;> rw [e] <;> decide +kernel
theorem any_next (p : UInt8 → Bool) {l : List UInt8} {k : Nat} {b : UInt8} (h : l[k]? = some b) : (l.take (k + 1)).any p = ((l.take k).any p || p b) := by
  rw [List.take_add_one, h]; simp
theorem all_next (p : UInt8 → Bool) {l : List UInt8} {k : Nat} {b : UInt8} (h : l[k]? = some b) : (l.take (k + 1)).all p = ((l.take k).all p && p b) := by
  rw [List.take_add_one, h]; simp

set_option maxRecDepth 100000 in
set_option maxHeartbeats 4000000 in
theorem fails_law (l : List UInt8) (w : World)
    (hB : l.length ≤ 60 → (∀ b ∈ l, b.toNat ≠ 110 ∧ b.toNat ≠ 78) → ((∃ b ∈ l, OddB b) ∨ ∀ b ∈ l, ¬ figB b) → ∀ wx, Fr NoB w wx → Calls Tryz.prog 9 #[.string ⟨l.toArray⟩] wx
      fun e w' => e = .returned (.tuple #[.agg #[.int .i64 0, .bool false, .slice none 0 0, .int .i64 0], .int .i64 0, .bool false]) ∧ Fr NoB wx w')
    (hO : ∀ wx, Fr NoB w wx → Calls Tryz.prog 9 #[.string ⟨[49].toArray⟩] wx fun e w' => (∃ A n c, e = .returned (.tuple #[.agg #[.int .i64 0, .bool false, .slice A n c, .int .i64 0], .int .i64 0, .bool true])) ∧ Fr NoB wx w') :
    Calls Tryz.prog 4 #[.string ⟨l.toArray⟩] w fun e w' => e = .returned (.bool true) ∧ Fr NoB w w' := by
  have HB := hid hB; have HO := hid hO
  clear hB hO
  have hz := str_size l
  go_enter Tryz.func4, Tryz.ntmps4
  by_cases h1 : (2147483647 : Int) < l.length
  · go_wp2_with fail
    go_ret
    exact ⟨rfl, Fr.refl _ _⟩
  by_cases h2 : (60 : Int) < l.length
  · go_wp2_with fail
    go_ret
    exact ⟨rfl, Fr.refl _ _⟩
  have H2 := hid h2
  go_wp2_with fail
  go_loopw [3, 4, 22] (fun o f i wr => ∃ k : Nat, k ≤ l.length ∧ wr = w ∧ i = .int .i64 k ∧ o = .bool ((l.take k).any oddb) ∧ f = .bool ((l.take k).any figb) ∧ Hid ((l.take k).all (fun b => !ltr b) = true)) (fun _ _ i _ => l.length - (intOf i).toNat)
  case atStart => exact ⟨0, Nat.zero_le _, rfl, rfl, rfl, rfl, hid rfl⟩
  case round =>
    obtain ⟨k, hk, rfl, rfl, rfl, rfl, hL⟩ := hrel
    obtain ⟨o, ho⟩ : ∃ o, (l.take k).any oddb = o := ⟨_, rfl⟩
    obtain ⟨f, hf⟩ : ∃ f, (l.take k).any figb = f := ⟨_, rfl⟩
    have HOO := hid ho; have HFF := hid hf
    rw [ho, hf]
    clear ho hf
    by_cases hlt : k < l.length
    · obtain ⟨b, hb⟩ : ∃ b, l[k]? = some b := ⟨l[k], List.getElem?_eq_getElem hlt⟩
      have hlt' : k < (ByteArray.mk l.toArray).size := by rw [str_size]; exact hlt
      have hg := str_get l k b hb hlt'
      have HB1 := hid hb
      clear hb
      have hlz : (k : Int) < (l.length : Int) := by omega
      by_cases hc : ltr b = true
      · have hbits : bits BinOp.or IntKind.u8 (b.toNat : Int) 32 = 110 := ltr_bits b hc
        have HCZ : Hid (b.toNat = 110 ∨ b.toNat = 78) := hid (of_decide_eq_true hc)
        go_wp2_with fail
        all_goals first
          | (go_ret; exact ⟨rfl, Fr.refl _ _⟩)
          | (exfalso; have := HCZ.out; omega)
          | (exfalso; rename_i hx; simp [hbits] at hx; done)
          | (exfalso; rename_i hx1 hx; simp [hbits] at hx1; done)
          | (exfalso; rename_i hx2 hx1 hx; simp [hbits] at hx2; done)
      · have e1 := any_next oddb HB1.out
        have e2 := any_next figb HB1.out
        rw [HOO.out] at e1
        rw [HFF.out] at e2
        have e3 : Hid ((l.take (k + 1)).all (fun b => !ltr b) = true) := hid (by rw [all_next _ HB1.out, hL.out]; simpa using hc)
        have E1 := hid e1; have E2 := hid e2
        clear e1 e2 HOO HFF hL
        cases o <;> cases f <;> go_wp2_with fail
        all_goals first
          | (go_ret; exact ⟨rfl, Fr.refl _ _⟩)
          | (refine ⟨⟨k + 1, by omega, trivial, rfl, ?_, ?_, e3⟩, by simp [intOf]; omega⟩
             · rw [E1.out]
               refine congrArg Value.bool ?_
               rw [Bool.eq_iff_iff]
               simp only [oddb, Bool.or_eq_true, Bool.and_eq_true, decide_eq_true_eq, bne_iff_ne, ne_eq, Bool.not_eq_true', decide_eq_false_iff_not, true_or, false_or, Bool.false_eq_true, true_iff, reduceCtorEq, iff_true, not_true_eq_false, not_false_eq_true, true_and, and_true, false_and, and_false, iff_false, false_iff, eq_self]
               try omega
             · rw [E2.out]
               refine congrArg Value.bool ?_
               rw [Bool.eq_iff_iff]
               simp only [figb, Bool.or_eq_true, Bool.and_eq_true, decide_eq_true_eq, true_or, false_or, Bool.false_eq_true, true_iff, reduceCtorEq, iff_true, iff_false, false_iff, eq_self]
               try omega)
          | skip
    · obtain rfl : k = l.length := by omega
      rw [List.take_length] at HOO HFF hL
      have HN : Hid (∀ b ∈ l, b.toNat ≠ 110 ∧ b.toNat ≠ 78) := hid (fun b hb => by
        have h := List.all_eq_true.1 hL.out b hb
        simp [ltr] at h
        exact h)
      have HG : Hid (o = true ∨ f = false → ((∃ b ∈ l, OddB b) ∨ ∀ b ∈ l, ¬ figB b)) := hid (fun h => by
        rcases h with rfl | rfl
        · obtain ⟨b, hb, hq⟩ := List.any_eq_true.1 HOO.out
          refine .inl ⟨b, hb, ?_⟩
          simp only [oddb, decide_eq_true_eq] at hq
          unfold OddB OddL figB
          omega
        · refine .inr fun b hb hq => ?_
          have := List.any_eq_false.1 HFF.out b hb
          simp only [figb, decide_eq_true_eq] at this
          exact this hq)
      have END : o = true ∨ f = false → Hid (Calls Tryz.prog 9 #[.string ⟨l.toArray⟩] wr
          fun e w' => e = .returned (.tuple #[.agg #[.int .i64 0, .bool false, .slice none 0 0, .int .i64 0], .int .i64 0, .bool false]) ∧ Fr NoB wr w') := fun h => hid (HB.out (by have := H2.out; omega) HN.out (HG.out h) wr (Fr.refl _ _))
      have hge : ¬ ((l.length : Int) < (l.length : Int)) := by omega
      clear hk HOO HFF hL hlt HB HN HG
      by_cases hq : o = false ∧ f = true
      · obtain ⟨rfl, rfl⟩ := hq
        go_wp2_with fail
        go_ret
        exact ⟨rfl, Fr.refl _ _⟩
      · have HE := END (by cases o <;> cases f <;> simp at hq ⊢)
        clear END
        have hof : (!o && f) = false := by cases o <;> cases f <;> simp at hq ⊢
        clear hq
        cases o <;> cases f <;> first | (exfalso; simp at hof; done) | (
          go_wp2_with (go_at_call 9; first | (refine HE.out.mono ?_; rintro e w1 ⟨rfl, hF1⟩; have HF1 := hid hF1; clear HE hF1) | (refine Calls.mono (HO.out _ (HF1.out.alloc _)) ?_; rintro e w2 ⟨⟨A, n, c, rfl⟩, hF2⟩; have HF2 := hid ((HF1.out.alloc _).trans hF2 (fun _ _ h => h)); clear HO HF1 hF2))
          go_ret
          exact ⟨rfl, HF2.out.alloc _⟩)
end Go.Proofs.YteokhhepnoelhaaGreatDoor
