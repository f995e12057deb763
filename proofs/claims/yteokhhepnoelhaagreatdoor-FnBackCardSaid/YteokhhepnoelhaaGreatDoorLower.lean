/-
  PLAIN: what strings.ToLower leaves of a text's bytes: an ASCII byte of the lowered text is an ASCII byte of the text lowered, or i or k; a byte from 128 on leaves i, k or a byte from 128 on.
-/
import Derived.Shelf.Strings.CaseAny
set_option linter.unusedVariables false
set_option linter.unusedSimpArgs false
namespace Go.Proofs.YteokhhepnoelhaaGreatDoor
open Go.Lib

def rowLow (x : CaseRow) : Bool := decide (x.2.1 < 128) || (if x.2.2.2.1 > 1114111 then decide (128 ≤ x.1) else (decide (128 ≤ (x.1 : Int) + x.2.2.2.1) || (decide (x.1 = x.2.1) && (decide ((x.1 : Int) + x.2.2.2.1 = 105) || decide ((x.1 : Int) + x.2.2.2.1 = 107)))))
theorem rowLow_all : caseT.all rowLow = true := by as_aux_lemma => kernel_rfl
theorem rowLow_at (i : Nat) (h : i < caseA.size) : rowLow (caseA.getD i (0, 0, 0, 0, 0)) = true := by
  have hh : i < caseT.length := by simpa [caseA] using h
  have := List.all_eq_true.1 rowLow_all (caseT[i]) (List.getElem_mem hh)
  simpa [caseA, hh] using this
theorem toLowerU_high (r : Nat) (h : 128 ≤ r) (hm : r ≤ 1114111) : 128 ≤ toLowerU r ∨ toLowerU r = 105 ∨ toLowerU r = 107 := by
  unfold toLowerU
  rw [if_neg (by omega)]
  unfold toR lookupGo
  cases hi : lookupIdx caseA r (caseA.size + 1) 0 caseA.size with
  | none => left; show (128 : Int) ≤ (r : Int); omega
  | some i =>
    obtain ⟨hil, hlo, hhi⟩ := lookupIdx_some caseA r _ _ _ i hi
    have hr := rowLow_at i hil
    simp only [Option.map_some]
    generalize caseA.getD i (0, 0, 0, 0, 0) = x at *
    simp only [rowLow, Bool.or_eq_true, decide_eq_true_eq] at hr
    unfold convertR
    simp only [CaseRow.delta]
    rcases hr with hr | hr
    · omega
    · split
      · rename_i hg
        rw [if_pos hg, decide_eq_true_eq] at hr
        left; omega
      · rename_i hg
        rw [if_neg hg] at hr
        simp only [Bool.or_eq_true, Bool.and_eq_true, decide_eq_true_eq] at hr
        omega

theorem encode_high (r : Int) (h : 128 ≤ r) : (∀ c ∈ encodeRune r, 128 ≤ c.toNat) ∧ encodeRune r ≠ [] := by
  have big : ∀ x : Int, 128 ≤ x → x < 256 → 128 ≤ (x.toNat.toUInt8).toNat := by
    intro x h1 h2
    have : (x.toNat.toUInt8).toNat = x.toNat := by
      simp; omega
    omega
  unfold encodeRune encodeRuneZ
  rw [if_neg (by omega)]
  split
  · refine ⟨?_, by simp⟩
    intro c hc
    simp only [List.map_cons, List.map_nil, List.mem_cons, List.not_mem_nil, or_false] at hc
    rcases hc with rfl | rfl <;> exact big _ (by omega) (by omega)
  · split
    · refine ⟨?_, by simp⟩
      intro c hc
      simp only [List.map_cons, List.map_nil, List.mem_cons, List.not_mem_nil, or_false] at hc
      rcases hc with rfl | rfl | rfl <;> exact big _ (by omega) (by omega)
    · split
      · refine ⟨?_, by simp⟩
        intro c hc
        simp only [List.map_cons, List.map_nil, List.mem_cons, List.not_mem_nil, or_false] at hc
        rcases hc with rfl | rfl | rfl | rfl <;> exact big _ (by omega) (by omega)
      · refine ⟨?_, by simp⟩
        intro c hc
        simp only [List.map_cons, List.map_nil, List.mem_cons, List.not_mem_nil, or_false] at hc
        rcases hc with rfl | rfl | rfl <;> decide

/-- The image of one rune of the text, from 128 on. -/
theorem image_high (r : Nat) (h : 128 ≤ r) (hm : r ≤ 1114111) : (∀ c ∈ (if 0 ≤ toLowerU r then encodeRune (toLowerU r) else []), 128 ≤ c.toNat ∨ c.toNat = 105 ∨ c.toNat = 107) ∧ (if 0 ≤ toLowerU r then encodeRune (toLowerU r) else []) ≠ [] := by
  rw [if_pos (toLowerU_range r hm).1]
  rcases toLowerU_high r h hm with h1 | h1 | h1
  · exact ⟨fun c hc => .inl ((encode_high _ h1).1 c hc), (encode_high _ h1).2⟩
  · rw [h1]
    have : encodeRune 105 = [105] := by decide
    rw [this]
    exact ⟨fun c hc => by simp only [List.mem_singleton] at hc; subst hc; exact .inr (.inl rfl), by simp⟩
  · rw [h1]
    have : encodeRune 107 = [107] := by decide
    rw [this]
    exact ⟨fun c hc => by simp only [List.mem_singleton] at hc; subst hc; exact .inr (.inr rfl), by simp⟩

theorem decodeL_high (b : UInt8) (t : List UInt8) (h : 128 ≤ b.toNat) : 128 ≤ (decodeL (b :: t)).1 ∧ (decodeL (b :: t)).1 ≤ 1114111 := by
  refine ⟨?_, decodeL_rune _⟩
  have hs : 0 < (ByteArray.mk (b :: t).toArray).size := by simp [ByteArray.size]
  have := decode_high ⟨(b :: t).toArray⟩ 0 hs h
  exact this.1

/-- An ASCII byte of the lowered text. -/
theorem lower_mem : ∀ (n : Nat) (l : List UInt8), l.length ≤ n → ∀ c ∈ toLowerD l, 128 ≤ c.toNat ∨ c.toNat = 105 ∨ c.toNat = 107 ∨ ∃ b ∈ l, b.toNat < 128 ∧ c = lowerB b
  | 0, l, hn, c, hc => by
    have : l = [] := List.eq_nil_of_length_eq_zero (by omega)
    subst this
    simp [toLowerD, mapD, mapGoD] at hc
  | n + 1, [], hn, c, hc => by simp [toLowerD, mapD, mapGoD] at hc
  | n + 1, b :: t, hn, c, hc => by
    unfold toLowerD at hc
    rw [mapD_step toLowerU (b :: t) (by simp)] at hc
    rcases List.mem_append.1 hc with h | h
    · by_cases hb : b.toNat < 128
      · rw [decodeL_ascii b t hb] at h
        dsimp only at h
        rw [if_pos (toLowerU_range b.toNat (by omega)).1, lower_byte ⟨b.toNat, hb⟩] at h
        simp only [List.mem_singleton] at h
        refine .inr (.inr (.inr ⟨b, by simp, hb, ?_⟩))
        rw [h]
        simp
      · have hd := decodeL_high b t (by omega)
        rcases (image_high _ hd.1 hd.2).1 c h with h | h | h
        · exact .inl h
        · exact .inr (.inl h)
        · exact .inr (.inr (.inl h))
    · have hw := decodeL_width (b :: t)
      rcases lower_mem n ((b :: t).drop (decodeL (b :: t)).2) (by rw [List.length_drop]; simp only [List.length_cons] at *; omega) c h with h | h | h | ⟨x, hx, h⟩
      · exact .inl h
      · exact .inr (.inl h)
      · exact .inr (.inr (.inl h))
      · exact .inr (.inr (.inr ⟨x, List.mem_of_mem_drop hx, h⟩))

/-- Whatever a byte's make, if i, k and all from 128 on are of that make, and so is an ASCII byte's lowered one: then a byte of that make in the text leaves one in the lowered text. -/
theorem lower_keeps (Odd : UInt8 → Prop) (hhi : ∀ c : UInt8, (128 ≤ c.toNat ∨ c.toNat = 105 ∨ c.toNat = 107) → Odd c) (hlo : ∀ b : UInt8, b.toNat < 128 → Odd b → Odd (lowerB b)) :
    ∀ (n : Nat) (l : List UInt8), l.length ≤ n → (∃ b ∈ l, Odd b) → ∃ c ∈ toLowerD l, Odd c
  | 0, l, hn, ⟨b, hb, _⟩ => by
    have : l = [] := List.eq_nil_of_length_eq_zero (by omega)
    subst this
    simp at hb
  | n + 1, [], hn, ⟨b, hb, _⟩ => by simp at hb
  | n + 1, b :: t, hn, ⟨x, hx, ho⟩ => by
    unfold toLowerD
    rw [mapD_step toLowerU (b :: t) (by simp)]
    by_cases hb : b.toNat < 128
    · rw [decodeL_ascii b t hb]
      dsimp only
      rw [if_pos (toLowerU_range b.toNat (by omega)).1, lower_byte ⟨b.toNat, hb⟩, List.drop_succ_cons, List.drop_zero]
      simp only [List.mem_cons] at hx
      rcases hx with rfl | hx
      · exact ⟨lowerB x, by simp, hlo x hb ho⟩
      · obtain ⟨c, hc, h⟩ := lower_keeps Odd hhi hlo n t (by simp only [List.length_cons] at hn; omega) ⟨x, hx, ho⟩
        exact ⟨c, List.mem_append.2 (.inr hc), h⟩
    · have hd := decodeL_high b t (by omega)
      have hi := image_high _ hd.1 hd.2
      obtain ⟨c, hc⟩ := List.exists_mem_of_ne_nil _ hi.2
      exact ⟨c, List.mem_append.2 (.inl hc), hhi c (hi.1 c hc)⟩
end Go.Proofs.YteokhhepnoelhaaGreatDoor
