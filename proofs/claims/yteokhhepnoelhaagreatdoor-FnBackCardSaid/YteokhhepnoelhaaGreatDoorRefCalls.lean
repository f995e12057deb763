/-
  The reference's functions on numbers, called: Small, Mul by a digit, Add, OfDec, IsDec.
-/
import Derived.Test.YteokhhepnoelhaaGreatDoorRefWords
set_option linter.unusedVariables false
set_option linter.unusedSimpArgs false
namespace Go.Proofs.YteokhhepnoelhaaGreatDoor
open Go.RowKit Go.Proofs.YteokhhepnoelhaaGreatDoorW.PrintWords PFnParse

/-- A slice of ints that reads as these digits. -/
def CN (w : World) (A : Option Addr) (n c : Nat) (xs : List Nat) : Prop := n = xs.length ∧ n ≤ c ∧ Kd.C (Kd.int .i64) w A n (zs xs)
theorem CN.fr {w w' : World} {A : Option Addr} {n c : Nat} {xs : List Nat} (h : CN w A n c xs) (hF : Fr NoB w w') : CN w' A n c xs := ⟨h.1, h.2.1, Kd.C_below h.2.2 hF.below⟩
theorem CN.nil (w : World) : CN w none 0 0 [] := ⟨rfl, Nat.le_refl _, by
  obtain ⟨A, c, e, hc, hr⟩ := Kd.R_reads (Kd.R_nil (Kd.int .i64) 3 w 0 (fun _ => True))
  injection e with e1 e2 e3
  rw [e1]
  exact hr⟩
/-- The same, and it leads to blocks from B on. -/
def CB (w : World) (B : Nat) (A : Option Addr) (n c : Nat) (xs : List Nat) : Prop := n = xs.length ∧ n ≤ c ∧ Kd.F (Kd.int .i64) w (fun k => B ≤ k) A n (zs xs)
theorem CB.cn {w : World} {B : Nat} {A : Option Addr} {n c : Nat} {xs : List Nat} (h : CB w B A n c xs) : CN w A n c xs := ⟨h.1, h.2.1, Kd.F_now h.2.2⟩
theorem CB.fr {w w' : World} {B : Nat} {A : Option Addr} {n c : Nat} {xs : List Nat} (h : CB w B A n c xs) (hF : Fr NoB w w') : CB w' B A n c xs := ⟨h.1, h.2.1, Kd.F_below h.2.2 hF.below⟩
theorem CB.lower {w : World} {B B' : Nat} {A : Option Addr} {n c : Nat} {xs : List Nat} (h : CB w B A n c xs) (hB : B' ≤ B) : CB w B' A n c xs := ⟨h.1, h.2.1, Kd.F_mono h.2.2 (fun k hk => Nat.le_trans hB hk)⟩
theorem CB.far {w : World} {B : Nat} {A : Option Addr} {n c : Nat} {xs : List Nat} (h : CB w B A n c xs) {p : Addr} (hp : p.block < B) (u : Value) : CB (w.setCell p u) B A n c xs := ⟨h.1, h.2.1, Kd.F_far h.2.2 (fun k hk => by omega) u⟩
theorem CB.nil (w : World) (B : Nat) : CB w B none 0 0 [] := ⟨rfl, Nat.le_refl _, Kd.F_nil _ _ _⟩
/-- A slice of words that reads as these. -/
def CW (w : World) (A : Option Addr) (n c : Nat) (xs : List Nat) : Prop := n = xs.length ∧ n ≤ c ∧ Kd.C (Kd.int .u64) w A n (zs xs)
theorem CW.fr {w w' : World} {A : Option Addr} {n c : Nat} {xs : List Nat} (h : CW w A n c xs) (hF : Fr NoB w w') : CW w' A n c xs := ⟨h.1, h.2.1, Kd.C_below h.2.2 hF.below⟩
theorem nums_zs (xs : List Nat) : nums .u64 (zs xs) = u64s xs := by simp [nums, zs, u64s]
theorem CW_of_own {w : World} {B n k c : Nat} {A : Option Addr} {xs : List Nat} (h : w.ownsRow B 36 1 (.slice A n c) k (u64s xs)) : CW w A n c xs := by
  have hk : k = xs.length := by have := h.1; rw [u64s_length] at this; omega
  have hn : n = k ∧ n ≤ c := by
    rcases h.2 with ⟨e, h0⟩ | ⟨g, cap, cur, e, _, _, h1, _⟩
    · injection e with _ e2 e3
      omega
    · injection e with _ e2 e3
      exact ⟨e2, by omega⟩
  obtain ⟨rfl, hc⟩ := hn
  rw [← nums_zs] at h
  obtain ⟨A', c', e, hr⟩ := own_reads h
  injection e with e1 e2 e3
  subst e1
  exact ⟨hk, hc, Kd.C_of_reads (d := 0) (readsInt_of.1 hr)⟩

def ListRes (W : World) (xs : List Nat) (e : Ending) (w' : World) : Prop := ∃ A n c, e = .returned (.slice A n c) ∧ CB w' W.heap.size A n c xs ∧ Fr NoB W w'
theorem CN_of_V {w : World} {base B : Nat} {v : Value} {xs : List Nat} (h : Kd.V (Kd.int .i64) 3 w base (fun k => B ≤ k) v (zs xs)) : ∃ A n c, v = .slice A n c ∧ CB w B A n c xs := by
  obtain ⟨A, c, e⟩ := Kd.V_slice h
  subst e
  obtain ⟨h1, h2, h3⟩ := Kd.V_reads' h
  exact ⟨A, _, c, rfl, zs_length xs, h2, Kd.V_F h⟩

theorem smallC (n : Nat) (hn : n < 4611686018427387904) (W : World) : Calls Tryz.prog 21 #[.int .i64 (n : Int)] W (ListRes W (digs n)) := by
  obtain ⟨k, hk⟩ := (Small_ev n hn).get
  refine (spec_Small.calls k n _ W hk).mono ?_
  rintro e w' ⟨v, rfl, hR, hB⟩
  have hV : Kd.V (Kd.int .i64) 3 w' 0 (fun k => W.heap.size ≤ k) v (zs (digs n)) := Kd.V_mono (Kd.R_V (Kd.R_bound hR)) (fun k hk => hk.2.1)
  obtain ⟨A', n', c', rfl, hCN⟩ := CN_of_V hV
  exact ⟨A', n', c', rfl, hCN, Fr.of_below hB _⟩
theorem mulC (a y : Nat) (hy : y < 65536) (hy0 : y ≠ 0) (ha : (digs a).length ≤ 10000) (A B : Option Addr) (n c m d : Nat) (W : World) (h1 : CN W A n c (digs a)) (h2 : CN W B m d (digs y)) :
    Calls Tryz.prog 20 #[.slice A n c, .slice B m d] W (ListRes W (digs (a * y))) := by
  obtain ⟨k, hk⟩ := (Mul_ev a y hy hy0 ha).get
  obtain ⟨e1, hc1, hr1⟩ := h1
  obtain ⟨e2, hc2, hr2⟩ := h2
  rw [← zs_length] at e1 e2
  subst e1 e2
  refine (spec_Mul.calls k A c _ B d _ _ W hr1 hc1 hr2 hc2 hk).mono ?_
  rintro e w' ⟨v, rfl, hV, hB⟩
  obtain ⟨A', n', c', rfl, hCN⟩ := CN_of_V hV
  exact ⟨A', n', c', rfl, hCN, Fr.of_below hB _⟩
theorem addC (a b : Nat) (ha : (digs a).length ≤ 10000) (hb : (digs b).length ≤ 10000) (A B : Option Addr) (n c m d : Nat) (W : World) (h1 : CN W A n c (digs a)) (h2 : CN W B m d (digs b)) :
    Calls Tryz.prog 19 #[.slice A n c, .slice B m d] W (ListRes W (digs (a + b))) := by
  obtain ⟨k, hk⟩ := (Add_ev a b ha hb).get
  obtain ⟨e1, hc1, hr1⟩ := h1
  obtain ⟨e2, hc2, hr2⟩ := h2
  rw [← zs_length] at e1 e2
  subst e1 e2
  refine (spec_Add.calls k A c _ B d _ _ W hr1 hc1 hr2 hc2 hk).mono ?_
  rintro e w' ⟨v, rfl, hV, hB⟩
  obtain ⟨A', n', c', rfl, hCN⟩ := CN_of_V hV
  exact ⟨A', n', c', rfl, hCN, Fr.of_below hB _⟩

/-- OfDec: the value, and whether the words are those of a number. -/
def OfDecRes (W : World) (f : Int) (neg : Bool) (ws : List Nat) (x : Int) (e : Ending) (w' : World) : Prop :=
  ∃ A n c, e = .returned (.tuple #[.agg #[.bool neg, .slice A n c, .int .i64 x], .bool (decide (f = 0) && decide (ws = limbs (nval ws)))]) ∧ CB w' W.heap.size A n c (digs (nval ws)) ∧ Fr NoB W w'
theorem digs_len_ws (ws : List Nat) (hw : ∀ x ∈ ws, x < WB) : (digs (nval ws)).length ≤ 4 * ws.length := by
  rw [← four_val ws hw, ← normL_digs _ (four_bd ws), ← four_length]
  exact normL_length _
theorem limbs_len_ws (ws : List Nat) (hw : ∀ x ∈ ws, x < WB) : (limbs (nval ws)).length ≤ ws.length := by
  rw [← normL_limbs ws hw]
  exact normL_length _
theorem ofDecC (f : Int) (neg : Bool) (ws : List Nat) (x : Int) (hw : ∀ x ∈ ws, x < WB) (hl : ws.length ≤ 1000) (A : Option Addr) (n c : Nat) (W : World) (h1 : CW W A n c ws) :
    Calls Tryz.prog 10 #[.agg #[.int .i64 f, .bool neg, .slice A n c, .int .i64 x]] W (OfDecRes W f neg ws x) := by
  have d1 := digs_len_ws ws hw
  have d2 := limbs_len_ws ws hw
  obtain ⟨k, hk⟩ := (OfDec_ev f neg ws x hw hl (by omega) (by omega)).get
  obtain ⟨e1, hc1, hr1⟩ := h1
  rw [← zs_length] at e1
  subst e1
  refine (spec_OfDec.calls k f neg A c _ x _ _ _ _ W hr1 hc1 hk).mono ?_
  rintro e w' ⟨v, rfl, hV, hB⟩
  obtain ⟨A', n', c', rfl, hCN⟩ := CN_of_V hV
  exact ⟨A', n', c', rfl, hCN, Fr.of_below hB _⟩
theorem isDecC (neg : Bool) (V : Nat) (x : Int) (hl : (limbs V).length ≤ 1000) (hd : (digs V).length ≤ 10000) (A B : Option Addr) (n c m d : Nat) (W : World) (h1 : CW W A n c (limbs V)) (h2 : CN W B m d (digs V)) :
    Calls Tryz.prog 11 #[.agg #[.int .i64 0, .bool neg, .slice A n c, .int .i64 x], .agg #[.bool neg, .slice B m d, .int .i64 x]] W fun e w' => e = .returned (.bool true) ∧ Fr NoB W w' := by
  obtain ⟨k, hk⟩ := (IsDec_ev neg V x hl hd).get
  obtain ⟨e1, hc1, hr1⟩ := h1
  obtain ⟨e2, hc2, hr2⟩ := h2
  rw [← zs_length] at e1 e2
  subst e1 e2
  refine (spec_IsDec.calls k 0 neg A c _ x neg B d _ x _ W hr1 hc1 hr2 hc2 hk).mono ?_
  rintro e w' ⟨rfl, hB⟩
  exact ⟨rfl, Fr.of_below hB _⟩
end Go.Proofs.YteokhhepnoelhaaGreatDoor
