/-
  PLAIN: a text with a byte that no number has, or without a figure, is none for setString.
-/
import Derived.Test.YteokhhepnoelhaaGreatDoorSetNum
import Derived.Test.YteokhhepnoelhaaGreatDoorLower
set_option linter.unusedVariables false
set_option linter.unusedSimpArgs false
namespace Go.Proofs.YteokhhepnoelhaaGreatDoor
open Go.RowKit

def figB (b : UInt8) : Prop := 48 ≤ b.toNat ∧ b.toNat ≤ 57
/-- A byte that no number has (in a lowered text). -/
def OddL (b : UInt8) : Prop := ¬ figB b ∧ b.toNat ≠ 46 ∧ b.toNat ≠ 43 ∧ b.toNat ≠ 45 ∧ b.toNat ≠ 101
def OddB (b : UInt8) : Prop := OddL b ∧ b.toNat ≠ 69

theorem parseUintM_ok (M : Nat) : ∀ (l : List UInt8) (acc u : Nat), Lib.parseUintM M acc l = .ok u → ∀ b ∈ l, figB b
  | [], acc, u, h => by simp
  | c :: r, acc, u, h => by
    simp only [Lib.parseUintM] at h
    split at h
    · rename_i hd
      split at h
      · cases h
      · split at h
        · cases h
        · intro b hb
          simp only [List.mem_cons] at hb
          rcases hb with rfl | hb
          · exact hd
          · exact parseUintM_ok M r _ u h b hb
    · cases h

theorem parseIntB_ok (B : Nat) (l : List UInt8) (v : Int) (h : Lib.parseIntB B l = .ok v) : ∀ b ∈ l, ¬ OddL b := by
  cases l with
  | nil => simp
  | cons c r =>
    simp only [Lib.parseIntB] at h
    have hu : ∃ u, Lib.parseUintB B (if c.toNat = 43 ∨ c.toNat = 45 then r else c :: r) = .ok u := by
      cases hp : Lib.parseUintB B (if c.toNat = 43 ∨ c.toNat = 45 then r else c :: r) with
      | ok u => exact ⟨u, rfl⟩
      | _ => rw [hp] at h; cases h
    obtain ⟨u, hu⟩ := hu
    have hf : ∀ b ∈ (if c.toNat = 43 ∨ c.toNat = 45 then r else c :: r), figB b := by
      generalize (if c.toNat = 43 ∨ c.toNat = 45 then r else c :: r) = x at *
      unfold Lib.parseUintB at hu
      by_cases hx : x = []
      · subst hx; simp
      · rw [if_neg hx] at hu
        exact parseUintM_ok _ _ _ u hu
    intro b hb ho
    by_cases hc : c.toNat = 43 ∨ c.toNat = 45
    · rw [if_pos hc] at hf
      simp only [List.mem_cons] at hb
      rcases hb with rfl | hb
      · rcases hc with hc | hc
        · exact ho.2.2.1 hc
        · exact ho.2.2.2.1 hc
      · exact ho.1 (hf b hb)
    · rw [if_neg hc] at hf
      exact ho.1 (hf b hb)

theorem split_at (l : List UInt8) (c : UInt8) (h : c ∈ l) : l = l.takeWhile (· != c) ++ c :: l.drop ((l.takeWhile (· != c)).length + 1) := by
  induction l with
  | nil => simp at h
  | cons b l ih =>
    by_cases hb : b = c
    · subst hb
      simp
    · have hm : c ∈ l := by
        simp only [List.mem_cons] at h
        exact h.resolve_left (fun hh => hb hh.symm)
      have hbc : (b != c) = true := by simpa using hb
      rw [List.takeWhile_cons_of_pos (p := fun x => x != c) hbc]
      simp only [List.length_cons, List.cons_append, List.drop_succ_cons]
      exact congrArg _ (ih hm)

theorem readDot_mem (m : List UInt8) (es : List Int) : (∀ b ∈ m, b ∈ (readDot m es).1 ∨ b = 46) ∧ (∀ b ∈ (readDot m es).1, b ∈ m) := by
  unfold readDot
  split
  · rename_i h
    have hs := split_at m 46 h
    have ht := takeWhile_take (low := m) (p := fun x => x != 46) rfl
    constructor
    · intro b hb
      rw [hs, List.mem_append, List.mem_cons] at hb
      rcases hb with hb | hb | hb
      · left; rw [List.mem_append]; left; rw [← ht]; exact hb
      · exact .inr hb
      · left; rw [List.mem_append]; right; exact hb
    · intro b hb
      rw [List.mem_append] at hb
      rcases hb with hb | hb
      · exact List.mem_of_mem_take hb
      · exact List.mem_of_mem_drop hb
  · exact ⟨fun b hb => .inl hb, fun b hb => hb⟩

/-- What is read is all figures, dot, sign and exponent; and there is a figure. -/
theorem readLow_some {low : List UInt8} {ds : List UInt8} {es : List Int} (h : readLow low = some (ds, es)) : (∀ b ∈ low, ¬ OddL b) ∧ ∃ b ∈ low, figB b := by
  unfold readLow at h
  cases hr : readE low with
  | none => rw [hr] at h; cases h
  | some me =>
    obtain ⟨m, e0⟩ := me
    rw [hr] at h
    dsimp only at h
    split at h
    · rename_i hc
      obtain ⟨hne, hall⟩ := hc
      have hdig := Digs.of_all hall
      obtain ⟨r1, r2⟩ := readDot_mem m e0
      have hm : ∀ b ∈ m, ¬ OddL b := by
        intro b hb ho
        rcases r1 b hb with h | h
        · exact ho.1 (hdig b h)
        · exact ho.2.1 (by rw [h]; rfl)
      have hml : (∀ b ∈ m, b ∈ low) ∧ (∀ b ∈ low, b ∈ m ∨ ¬ OddL b) := by
        unfold readE at hr
        split at hr
        · rename_i h101
          have hs := split_at low 101 h101
          split at hr
          · rename_i v hp
            simp only [Option.some.injEq, Prod.mk.injEq] at hr
            rw [← hr.1]
            refine ⟨fun b hb => (List.takeWhile_prefix _).subset hb, fun b hb => ?_⟩
            rw [hs, List.mem_append, List.mem_cons] at hb
            rcases hb with hb | hb | hb
            · exact .inl hb
            · exact .inr (fun ho => ho.2.2.2.2 (by rw [hb]; rfl))
            · exact .inr (parseIntB_ok 32 _ v hp b hb)
          · cases hr
        · simp only [Option.some.injEq, Prod.mk.injEq] at hr
          rw [← hr.1]
          exact ⟨fun b hb => hb, fun b hb => .inl hb⟩
      refine ⟨fun b hb => (hml.2 b hb).elim (hm b) id, ?_⟩
      obtain ⟨b, hb⟩ := List.exists_mem_of_ne_nil _ hne
      exact ⟨b, hml.1 b (r2 b hb), hdig b hb⟩
    · cases h

theorem mem_unsign {l : List UInt8} {b : UInt8} (h : b ∈ unsign l) : b ∈ l := by
  have hc : ∀ (x p : List UInt8), b ∈ cutp x p → b ∈ x := by
    intro x p hb
    unfold cutp at hb
    split at hb
    · exact List.mem_of_mem_drop hb
    · exact hb
  unfold unsign at h
  split at h
  · exact hc _ _ h
  · exact hc _ _ (hc _ _ h)
theorem odd_unsign {l : List UInt8} {b : UInt8} (hb : b ∈ l) (ho : OddB b) : b ∈ unsign l := by
  have hc : ∀ (x : List UInt8) (c : UInt8), b ≠ c → b ∈ x → b ∈ cutp x [c] := by
    intro x c hne hx
    unfold cutp
    split
    · rename_i hp
      unfold Lib.hasPrefix at hp
      obtain ⟨t, rfl⟩ := List.isPrefixOf_iff_prefix.1 hp
      simp only [List.singleton_append, List.mem_cons] at hx
      simpa using hx.resolve_left hne
    · exact hx
  have h1 : b ≠ 45 := fun h => ho.1.2.2.2.1 (by rw [h]; rfl)
  have h2 : b ≠ 43 := fun h => ho.1.2.2.1 (by rw [h]; rfl)
  unfold unsign
  split
  · exact hc _ _ h1 hb
  · exact hc _ _ h2 (hc _ _ h1 hb)

theorem lowerB_nat (b : UInt8) (h : b.toNat < 128) : (Lib.lowerB b).toNat = if 65 ≤ b.toNat ∧ b.toNat ≤ 90 then b.toNat + 32 else b.toNat := by
  have key : ∀ i : Fin 128, (Lib.lowerB (UInt8.ofNat i.val)).toNat = if 65 ≤ i.val ∧ i.val ≤ 90 then i.val + 32 else i.val := by decide
  have := key ⟨b.toNat, h⟩
  simpa using this

/-- The law's guards: no letter i, n, s; an odd byte or no figure. -/
theorem reads_none (l : List UInt8) (hg : (∃ b ∈ l, OddB b) ∨ ∀ b ∈ l, ¬ figB b) : readLow (Lib.toLowerD (unsign l)) = none := by
  cases h : readLow (Lib.toLowerD (unsign l)) with
  | none => rfl
  | some r =>
    obtain ⟨ds, es⟩ := r
    obtain ⟨h1, c, hc, hf⟩ := readLow_some h
    rcases hg with ⟨b, hb, ho⟩ | hno
    · obtain ⟨x, hx, hox⟩ := lower_keeps OddB (fun c hc => by
        unfold OddB OddL figB
        omega) (fun b hb ho => by
        have := lowerB_nat b hb
        unfold OddB OddL figB at *
        split at this <;> omega) _ (unsign l) (Nat.le_refl _) ⟨b, odd_unsign hb ho, ho⟩
      exact absurd hox.1 (h1 x hx)
    · rcases lower_mem _ (unsign l) (Nat.le_refl _) c hc with h | h | h | ⟨b, hb, hlt, rfl⟩
      · unfold figB at hf; omega
      · unfold figB at hf; omega
      · unfold figB at hf; omega
      · refine absurd ?_ (hno b (mem_unsign hb))
        have := lowerB_nat b hlt
        unfold figB at *
        split at this <;> omega

theorem encodeRune_len (r : Int) : (Lib.encodeRune r).length ≤ 4 := by
  unfold Lib.encodeRune
  rw [List.length_map]
  unfold Lib.encodeRuneZ
  repeat' split
  all_goals simp
theorem lower_len : ∀ (n : Nat) (l : List UInt8), l.length ≤ n → (Lib.toLowerD l).length ≤ 4 * l.length
  | 0, l, hn => by
    have : l = [] := List.eq_nil_of_length_eq_zero (by omega)
    subst this
    simp [Lib.toLowerD, Lib.mapD, Lib.mapGoD]
  | n + 1, [], hn => by simp [Lib.toLowerD, Lib.mapD, Lib.mapGoD]
  | n + 1, b :: t, hn => by
    unfold Lib.toLowerD
    rw [Lib.mapD_step Lib.toLowerU (b :: t) (by simp), List.length_append]
    have hw := Lib.decodeL_width (b :: t)
    have hd : ((b :: t).drop (Lib.decodeL (b :: t)).2).length + 1 ≤ (b :: t).length := by
      rw [List.length_drop]; simp only [List.length_cons]; omega
    have ih := lower_len n ((b :: t).drop (Lib.decodeL (b :: t)).2) (by simp only [List.length_cons] at *; omega)
    unfold Lib.toLowerD at ih
    have he : (if 0 ≤ Lib.toLowerU (Lib.decodeL (b :: t)).1 then Lib.encodeRune (Lib.toLowerU (Lib.decodeL (b :: t)).1) else []).length ≤ 4 := by
      split
      · exact encodeRune_len _
      · simp
    omega
theorem unsign_len (l : List UInt8) : (unsign l).length ≤ l.length := by
  have hc : ∀ (x p : List UInt8), (cutp x p).length ≤ x.length := by
    intro x p
    unfold cutp
    split
    · rw [List.length_drop]; omega
    · exact Nat.le_refl _
  unfold unsign
  split
  · exact hc _ _
  · exact Nat.le_trans (hc _ _) (hc _ _)

theorem no_n (l : List UInt8) (hn : ∀ b ∈ l, b.toNat ≠ 110 ∧ b.toNat ≠ 78) : (110 : UInt8) ∉ Lib.toLowerD (unsign l) := by
  intro h
  rcases lower_mem _ (unsign l) (Nat.le_refl _) 110 h with h | h | h | ⟨b, hb, hlt, he⟩
  · exact absurd h (by decide)
  · exact absurd h (by decide)
  · exact absurd h (by decide)
  · have h1 := hn b (mem_unsign hb)
    have h2 := lowerB_nat b hlt
    rw [← he] at h2
    have : (110 : UInt8).toNat = 110 := rfl
    split at h2 <;> omega
end Go.Proofs.YteokhhepnoelhaaGreatDoor
