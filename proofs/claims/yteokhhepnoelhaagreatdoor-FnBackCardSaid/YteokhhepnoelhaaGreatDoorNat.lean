/-
  A natural number in memory (bigall's nat): make, norm, setWord, mulAddWW.
-/
import Derived.Test.YteokhhepnoelhaaGreatDoorMulAddV
import Derived.Laws.MakeOwn
set_option linter.unusedVariables false
set_option linter.unusedSimpArgs false
namespace Go.Proofs.YteokhhepnoelhaaGreatDoor
open Go.RowKit

/-! ### The plain side -/
def nval : List Nat → Nat
  | [] => 0
  | x :: xs => x + WB * nval xs
def normL : List Nat → List Nat
  | [] => []
  | x :: xs => match normL xs with
    | [] => if x = 0 then [] else [x]
    | y :: ys => x :: y :: ys

theorem normL_snoc_zero (xs : List Nat) : normL (xs ++ [0]) = normL xs := by
  induction xs with
  | nil => rfl
  | cons x xs ih => rw [List.cons_append, normL, normL, ih]
theorem normL_snoc (xs : List Nat) (x : Nat) (hx : x ≠ 0) : normL (xs ++ [x]) = xs ++ [x] := by
  induction xs with
  | nil => simp [normL, hx]
  | cons u xs ih =>
    rw [List.cons_append, normL, ih]
    cases xs <;> rfl
theorem nval_normL (xs : List Nat) : nval (normL xs) = nval xs := by
  induction xs with
  | nil => rfl
  | cons x xs ih =>
    rw [normL, nval, ← ih]
    cases h : normL xs with
    | nil =>
      by_cases hx : x = 0
      · simp [hx, nval]
      · simp [hx, nval]
    | cons y ys => rfl
theorem normL_length (xs : List Nat) : (normL xs).length ≤ xs.length := by
  induction xs with
  | nil => simp [normL]
  | cons x xs ih =>
    rw [normL]
    cases h : normL xs with
    | nil => by_cases hx : x = 0 <;> simp [hx]
    | cons y ys => rw [h] at ih; simp at ih ⊢; omega
theorem normL_lt (xs : List Nat) (h : ∀ x ∈ xs, x < WB) : ∀ x ∈ normL xs, x < WB := by
  induction xs with
  | nil => simp [normL]
  | cons x xs ih =>
    have ih := ih (fun u hu => h u (by simp [hu]))
    rw [normL]
    cases hn : normL xs with
    | nil =>
      by_cases hx : x = 0
      · simp [hx]
      · simp [hx]; exact h x (by simp)
    | cons y ys =>
      rw [hn] at ih
      intro u hu
      rcases List.mem_cons.1 hu with rfl | hu
      · exact h _ (by simp)
      · exact ih u hu
theorem normL_normL (xs : List Nat) : normL (normL xs) = normL xs := by
  induction xs with
  | nil => rfl
  | cons x xs ih =>
    cases h : normL xs with
    | nil =>
      by_cases hx : x = 0
      · simp [normL, h, hx]
      · simp [normL, h, hx]
    | cons y ys =>
      rw [h] at ih
      rw [show normL (x :: xs) = x :: y :: ys by rw [normL, h], normL, ih]
theorem nval_mulAdd (xs : List Nat) (y : Nat) : ∀ c, nval (mulAddZ xs y c ++ [mulAddC xs y c]) = nval xs * y + c := by
  induction xs with
  | nil => intro c; simp [mulAddZ, mulAddC, nval]
  | cons x xs ih =>
    intro c
    rw [mulAddZ, mulAddC, List.cons_append, nval, ih, nval]
    have := Nat.div_add_mod (x * y + c) WB
    generalize (x * y + c) / WB = q at *
    generalize (x * y + c) % WB = r at *
    rw [Nat.mul_add, Nat.add_mul, Nat.mul_assoc]
    omega
theorem mulAddZ_lt (xs : List Nat) (y : Nat) : ∀ c, ∀ u ∈ mulAddZ xs y c, u < WB := by
  induction xs with
  | nil => intro c u hu; simp [mulAddZ] at hu
  | cons x xs ih =>
    intro c u hu
    rcases List.mem_cons.1 hu with rfl | hu
    · exact Nat.mod_lt _ WB_pos
    · exact ih _ u hu

/-! ### In memory -/
def natBlk : Value → Option Nat
  | .slice (some a) _ _ => some a.block
  | _ => none
/-- A slice whose first cells are the words xs, at the head of a block that is the nat's own; or nil. -/
def NatAt (w : World) (v : Value) (xs : List Nat) : Prop :=
  (v = .slice none 0 0 ∧ xs = []) ∨ ∃ g cap cs, v = .slice (some ⟨g, 0, none⟩) xs.length cap ∧ w.heap[g]? = some (.cells cs 105 (0, 0)) ∧ cap ≤ cs.size ∧ xs.length ≤ cap ∧ cap ≤ 1000000 ∧ ∀ (j x : Nat), xs[j]? = some x → cs[j]? = some (.int .u64 (x : Int))
theorem NatAt.nil (w : World) : NatAt w (.slice none 0 0) [] := .inl ⟨rfl, rfl⟩
theorem NatAt.fr {w w' : World} {S : Nat → Prop} {v : Value} {xs : List Nat} (h : NatAt w v xs) (hF : Fr S w w') (hS : ∀ g, natBlk v = some g → ¬ S g) : NatAt w' v xs := by
  rcases h with h | ⟨g, cap, cs, rfl, hg, h1, h2, h3, h4⟩
  · exact .inl h
  · exact .inr ⟨g, cap, cs, rfl, hF.blk hg (hS g rfl), h1, h2, h3, h4⟩
theorem NatAt.lt {w : World} {v : Value} {xs : List Nat} (h : NatAt w v xs) : ∀ g, natBlk v = some g → g < w.heap.size := by
  rcases h with ⟨rfl, _⟩ | ⟨g, cap, cs, rfl, hg, _⟩
  · intro g h; cases h
  · intro k hk; cases hk; exact blk_lt hg

theorem Tryz.info105 : (Tryz.prog.info? 105).map (fun i => (i.zero, i.size, i.bytes)) = some (some (.int .u64 0), 1, 8) := by kernel_rfl

theorem run_make66 (l c : Nat) (hlc : l ≤ c) (hc : c ≤ 1000000) (w : World) :
    (Instr.makeSlice 66 (.int .i64 (l : Int)) (.int .i64 (c : Int))).run Tryz.prog w = .ok (.slice (some ⟨w.heap.size, 0, none⟩) l c) (w.alloc (.cells (madeCells #[.int .u64 0] c) 105)) := by
  obtain ⟨i, hi, hz⟩ := Option.map_eq_some_iff.1 Tryz.info105
  simp only [Prod.mk.injEq] at hz
  obtain ⟨h0, h1, h2⟩ := hz
  have h := run_make (P := Tryz.prog) w 66 105 i (.int .u64 0) Tryz.underlying66 hi h0 .i64 .i64 l c (by omega) (by omega) (by rw [h2]; omega) (by omega)
  rw [h1, Nat.mul_one, Int.toNat_natCast, Int.toNat_natCast] at h
  exact h

/-- What nat.make gives: a slice of n words in a block; the nat's own one, or a new one. -/
def Made (w : World) (v : Value) (n : Nat) (e : Ending) (w' : World) : Prop :=
  ∃ g cap cs, e = .returned (.slice (some ⟨g, 0, none⟩) n cap) ∧ w'.heap[g]? = some (.cells cs 105 (0, 0)) ∧ cap ≤ cs.size ∧ n ≤ cap ∧ cap ≤ 1000000 ∧ Fr NoB w w' ∧ (natBlk v = some g ∨ w.heap.size ≤ g)

theorem natMake (v : Value) (zs : List Nat) (n : Nat) (w : World) (hv : NatAt w v zs) (hn : 1 ≤ n) (hn' : n ≤ 1000) :
    Calls Tryz.prog 153 #[v, .int .i64 (n : Int)] w (Made w v n) := by
  have new1 : Made w v 1 (.returned (.slice (some ⟨w.heap.size, 0, none⟩) 1 1)) (w.alloc (.cells #[.int .u64 0] 105)) :=
    ⟨w.heap.size, 1, _, rfl, blk_new _ _, by simp, by omega, by omega, (Fr.refl _ _).alloc _, .inr (Nat.le_refl _)⟩
  have newn : Made w v n (.returned (.slice (some ⟨w.heap.size, 0, none⟩) n (n + 4))) (w.alloc (.cells (madeCells #[.int .u64 0] (n + 4)) 105)) :=
    ⟨w.heap.size, n + 4, _, rfl, blk_new _ _, by simp [size_madeCells], by omega, by omega, (Fr.refl _ _).alloc _, .inr (Nat.le_refl _)⟩
  have N1 := hid new1; have NN := hid newn
  have hm1 : ∀ w : World, (Instr.makeSlice 66 (.int .i64 1) (.int .i64 1)).run Tryz.prog w = .ok (.slice (some ⟨w.heap.size, 0, none⟩) 1 1) (w.alloc (.cells #[.int .u64 0] 105)) := fun _ => by kernel_rfl
  have hmn : ∀ w, (Instr.makeSlice 66 (.int .i64 (n : Int)) (.int .i64 ((n : Int) + 4))).run Tryz.prog w = .ok (.slice (some ⟨w.heap.size, 0, none⟩) n (n + 4)) (w.alloc (.cells (madeCells #[.int .u64 0] (n + 4)) 105)) := fun w => by
    have h := run_make66 n (n + 4) (by omega) (by omega) w
    rw [show ((n + 4 : Nat) : Int) = (n : Int) + 4 by omega] at h
    exact h
  rcases hv with ⟨rfl, rfl⟩ | ⟨g, cap, cs, rfl, hg, h1, h2, h3, h4⟩
  · clear new1 newn
    by_cases h : n = 1
    · subst h
      clear NN hmn
      go_enter Tryz.func153, Tryz.ntmps153
      go_wp2
      go_ret
      exact N1.out
    · have hne : ((n : Int) == 1) = false := by simp; omega
      clear N1 hm1
      go_enter Tryz.func153, Tryz.ntmps153
      go_wp2
      go_ret
      exact NN.out
  · by_cases hc : n ≤ cap
    · have old : Made w (.slice (some ⟨g, 0, none⟩) zs.length cap) n (.returned (.slice (some ⟨g, 0, none⟩) n cap)) w :=
        ⟨g, cap, cs, rfl, hg, h1, hc, h3, Fr.refl _ _, .inl rfl⟩
      have O := hid old
      clear new1 newn N1 NN hm1 hmn old h4 hg
      go_enter Tryz.func153, Tryz.ntmps153
      go_wp2
      go_ret
      exact O.out
    · clear new1 newn h4 hg
      by_cases h : n = 1
      · subst h
        clear NN hmn
        go_enter Tryz.func153, Tryz.ntmps153
        go_wp2
        go_ret
        exact N1.out
      · have hne : ((n : Int) == 1) = false := by simp; omega
        clear N1 hm1
        go_enter Tryz.func153, Tryz.ntmps153
        go_wp2
        go_ret
        exact NN.out

/-- A slice of n words read at its place; what norm gives: shorter, the same place. -/
def Normed (w : World) (v : Value) (xs : List Nat) (e : Ending) (w' : World) : Prop :=
  w = w' ∧ ∃ v', e = .returned v' ∧ NatAt w v' (normL xs) ∧ natBlk v' = natBlk v

theorem natNorm (v : Value) (xs : List Nat) (w : World) (hv : NatAt w v xs) : Calls Tryz.prog 111 #[v] w (Normed w v xs) := by
  rcases hv with ⟨rfl, rfl⟩ | ⟨g, cap, cs, rfl, hg, h1, h2, h3, h4⟩
  · have N : Normed w (.slice none 0 0) [] (.returned (.slice none 0 0)) w := ⟨rfl, _, rfl, NatAt.nil w, rfl⟩
    have N := hid N
    go_enter Tryz.func111, Tryz.ntmps111
    go_wp2
    go_rounds 1
    go_ret
    exact N.out
  · have HG := hid hg; have H4 := hid h4
    clear hg h4
    go_enter Tryz.func111, Tryz.ntmps111
    go_wp2
    go_loop [3] (fun i => ∃ k : Nat, k ≤ xs.length ∧ i = .int .i64 k ∧ Hid (normL xs = normL (xs.take k))) (fun i => (intOf i).toNat)
    case atStart => exact ⟨xs.length, Nat.le_refl _, rfl, by rw [List.take_length]; exact hid rfl⟩
    case round =>
      obtain ⟨k, hk, rfl, hn⟩ := hrel
      by_cases hk0 : k = 0
      · subst hk0
        have N : Normed w (.slice (some ⟨g, 0, none⟩) xs.length cap) xs (.returned (.slice (some ⟨g, 0, none⟩) 0 cap)) w :=
          ⟨rfl, _, rfl, by rw [hn.out]; exact .inr ⟨g, cap, cs, rfl, HG.out, h1, by simp [normL], h3, by simp [normL]⟩, rfl⟩
        have N := hid N
        clear hn
        go_wp2
        go_ret
        exact N.out
      · obtain ⟨j, rfl⟩ : ∃ j, k = j + 1 := ⟨k - 1, by omega⟩
        obtain ⟨x, hx⟩ : ∃ x, xs[j]? = some x := ⟨xs[j], List.getElem?_eq_getElem (by omega)⟩
        have htk : xs.take (j + 1) = xs.take j ++ [x] := by rw [List.take_add_one, hx]; rfl
        have hcell : w.cell? ⟨g, j, none⟩ = some (.int .u64 (x : Int)) := by rw [blk_cell HG.out]; exact H4.out j x hx
        by_cases hx0 : x = 0
        · subst hx0
          have hn2 : normL xs = normL (xs.take j) := by rw [hn.out, htk, normL_snoc_zero]
          have HN := hid hn2
          clear hn hn2 htk hx
          go_wp2
          go_round
          case rel => exact ⟨j, by omega, by go_num, HN⟩
          case measure => simp [intOf]
        · have hxb : ((x : Int) == 0) = false := by simp; omega
          have hn2 : normL xs = xs.take (j + 1) := by rw [hn.out, htk, normL_snoc _ _ hx0]
          have hlen : (xs.take (j + 1)).length = j + 1 := by rw [List.length_take]; omega
          have hat : NatAt w (.slice (some ⟨g, 0, none⟩) (j + 1) cap) (normL xs) := by
            rw [hn2]
            refine .inr ⟨g, cap, cs, by rw [hlen], HG.out, h1, by omega, h3, fun i u hi => H4.out i u ?_⟩
            rw [List.getElem?_take] at hi
            split at hi
            · exact hi
            · cases hi
          have N : Normed w (.slice (some ⟨g, 0, none⟩) xs.length cap) xs (.returned (.slice (some ⟨g, 0, none⟩) (j + 1) cap)) w :=
            ⟨rfl, _, rfl, hat, rfl⟩
          have N := hid N
          clear hn hn2 htk hx hlen hat
          go_wp2
          go_ret
          exact N.out
end Go.Proofs.YteokhhepnoelhaaGreatDoor
