/-
  The reference's Read: what it answers at every text of at most 60 bytes.
-/
import Derived.Test.YteokhhepnoelhaaGreatDoorRefCalls
import Derived.Test.YteokhhepnoelhaaGreatDoorRefExp
import Derived.Test.YteokhhepnoelhaaGreatDoorBigA
set_option linter.unusedVariables false
set_option linter.unusedSimpArgs false
namespace Go.Proofs.YteokhhepnoelhaaGreatDoor
open Go.RowKit

theorem u8_wr (n : Int) : IntKind.u8.wrap n = n % 256 := by kernel_rfl
/-- A text that is a number: its sign, its figures, its exponent. -/
def NumText (l : List UInt8) (neg : Bool) (ds : List UInt8) (e : Int) : Prop :=
  ∃ (sg a dot b ex : List UInt8) (x : Int), l = sg ++ (a ++ (dot ++ b) ++ ex) ∧ SgnOk sg neg ∧ Digs a ∧ Digs b ∧ DotOk dot b ∧ a ++ b ≠ [] ∧ ExOk ex x ∧ ds = a ++ b ∧ e = x - b.length
def ReadEnd8 (w : World) (l : List UInt8) (e : Ending) (w' : World) : Prop :=
  Fr NoB w w' ∧ ∃ (neg : Bool) (A : Option Addr) (n c : Nat) (x : Int) (ok : Bool), e = .returned (.tuple #[.agg #[.bool neg, .slice A n c, .int .i64 x], .bool ok]) ∧ (ok = true → ∃ ds, NumText l neg ds x ∧ CN w' A n c (digs (decVal ds)))
theorem readEnd_no {w w' : World} {l : List UInt8} (neg : Bool) (A : Option Addr) (n c : Nat) (x : Int) (h : Fr NoB w w') : ReadEnd8 w l (.returned (.tuple #[.agg #[.bool neg, .slice A n c, .int .i64 x], .bool false])) w' :=
  ⟨h, neg, A, n, c, x, false, rfl, fun h => by cases h⟩

def dotOf (p : Bool) : List UInt8 := if p = true then [46] else []
theorem dotOk_of {p : Bool} {b : List UInt8} (h : p = false → b = []) : DotOk (dotOf p) b := by
  cases p with
  | true => exact .inl rfl
  | false => exact .inr ⟨rfl, h rfl⟩

/-- What the loop has read at the place k, and where it lies. -/
def RdAt (w0 : World) (R : Nat) (neg : Bool) (s : List UInt8) (k : Nat) (a b : List UInt8) (p : Bool) (A : Option Addr) (n c : Nat) (wr : World) : Prop :=
  s.take k = a ++ (dotOf p ++ b) ∧ Digs a ∧ Digs b ∧ (p = false → b = []) ∧ CB wr (R + 2) A n c (digs (decVal (a ++ b))) ∧ BlkAt wr (R + 1) #[.bool neg, .slice A n c, .int .i64 0] 25 ∧ BlkAt wr R #[.bool false, .slice none 0 0, .int .i64 0] 25 ∧ Fr NoB w0 wr

theorem RdAt.start {w0 W : World} {R : Nat} {neg : Bool} {s : List UInt8} (h1 : BlkAt W (R + 1) #[.bool neg, .slice none 0 0, .int .i64 0] 25) (h2 : BlkAt W R #[.bool false, .slice none 0 0, .int .i64 0] 25) (h3 : Fr NoB w0 W) :
    RdAt w0 R neg s 0 [] [] false none 0 0 W :=
  ⟨rfl, by intro b hb; simp at hb, by intro b hb; simp at hb, fun _ => rfl, by rw [show decVal ([] ++ [] : List UInt8) = 0 from rfl, digs_zero]; exact CB.nil W _, h1, h2, h3⟩
theorem RdAt.len {w0 wr : World} {R k n c : Nat} {neg p : Bool} {s a b : List UInt8} {A : Option Addr} (h : RdAt w0 R neg s k a b p A n c wr) (hk : k ≤ s.length) : a.length + b.length ≤ k := by
  have := congrArg List.length h.1
  simp only [List.length_take, List.length_append] at this
  omega
theorem RdAt.val {w0 wr : World} {R k n c : Nat} {neg p : Bool} {s a b : List UInt8} {A : Option Addr} (h : RdAt w0 R neg s k a b p A n c wr) (hk : k ≤ s.length) (hs : s.length ≤ 60) : (digs (decVal (a ++ b))).length ≤ 20 := by
  have h1 : Digs (a ++ b) := fun x hx => by
    rw [List.mem_append] at hx
    exact hx.elim (h.2.1 x) (h.2.2.1 x)
  have h2 := decVal_lt _ h1
  have h3 := h.len hk
  rw [List.length_append] at h2
  have h4 : 10 ^ (a.length + b.length) ≤ 10 ^ 60 := Nat.pow_le_pow_right (by omega) (by omega)
  have h5 : (10 : Nat) ^ 60 ≤ 65536 ^ 20 := by decide
  exact digs_length_le 20 _ (by omega)
theorem RdAt.digit {w0 wr w1 : World} {R k n c n' c' : Nat} {neg p : Bool} {s a b : List UInt8} {A A' : Option Addr} {x : UInt8} (h : RdAt w0 R neg s k a b p A n c wr) (hx : s[k]? = some x) (hd : 48 ≤ x.toNat ∧ x.toNat ≤ 57)
    (hF : Fr NoB wr w1) (hC : CB w1 (R + 2) A' n' c' (digs (decVal (a ++ b) * 10 + (x.toNat - 48)))) (hR : w0.heap.size ≤ R) :
    RdAt w0 R neg s (k + 1) (if p = true then a else a ++ [x]) (if p = true then b ++ [x] else b) p A' n' c' (w1.setCell ⟨R + 1, 1, none⟩ (.slice A' n' c')) := by
  obtain ⟨e1, e2, e3, e4, e5, e6, e7, e8⟩ := h
  have hab : (if p = true then a else a ++ [x]) ++ (if p = true then b ++ [x] else b) = (a ++ b) ++ [x] := by
    cases p with
    | true => simp
    | false => simp [e4 rfl]
  refine ⟨?_, ?_, ?_, ?_, ?_, ?_, ?_, ?_⟩
  · rw [List.take_add_one, hx, e1]
    cases p with
    | true => simp [dotOf]
    | false => simp [dotOf, e4 rfl]
  · cases p with
    | true => exact e2
    | false =>
      intro y hy
      simp only [Bool.false_eq_true, if_false, List.mem_append, List.mem_singleton] at hy
      rcases hy with hy | rfl
      · exact e2 y hy
      · exact hd
  · cases p with
    | true =>
      intro y hy
      simp only [if_true, List.mem_append, List.mem_singleton] at hy
      rcases hy with hy | rfl
      · exact e3 y hy
      · exact hd
    | false => exact e3
  · intro hp; subst hp; simpa using e4 rfl
  · rw [hab, decVal_snoc]
    exact hC.far (p := ⟨R + 1, 1, none⟩) (by show R + 1 < R + 2; omega) _
  · exact blk_set (hF.blk e6 (fun h => h)) 1 _
  · exact blk_far (p := ⟨R + 1, 1, none⟩) (hF.blk e7 (fun h => h)) (by show R ≠ R + 1; omega) _
  · exact Fr.setCell (p := ⟨R + 1, 1, none⟩) (e8.trans hF (fun _ _ h => h)) (fun h => by have h : R + 1 < w0.heap.size := h; omega) _

theorem RdAt.dot {w0 wr : World} {R k n c : Nat} {neg : Bool} {s a b : List UInt8} {A : Option Addr} (h : RdAt w0 R neg s k a b false A n c wr) (hx : s[k]? = some 46) :
    b = [] ∧ RdAt w0 R neg s (k + 1) a b true A n c wr := by
  obtain ⟨e1, e2, e3, e4, e5, e6, e7, e8⟩ := h
  have hb := e4 rfl
  refine ⟨hb, ?_, e2, e3, (fun h => by cases h), e5, e6, e7, e8⟩
  rw [List.take_add_one, hx, e1, hb]
  simp [dotOf]
theorem RdAt.cells {w0 wr : World} {R k n c : Nat} {neg p : Bool} {s a b : List UInt8} {A : Option Addr} (h : RdAt w0 R neg s k a b p A n c wr) :
    (wr.cell? ⟨R + 1, 0, none⟩ = some (.bool neg) ∧ wr.cell? ⟨R + 1, 1, none⟩ = some (.slice A n c) ∧ wr.cell? ⟨R + 1, 2, none⟩ = some (.int .i64 0)) ∧
    (wr.cell? ⟨R, 0, none⟩ = some (.bool false) ∧ wr.cell? ⟨R, 1, none⟩ = some (.slice none 0 0) ∧ wr.cell? ⟨R, 2, none⟩ = some (.int .i64 0)) ∧
    (wr.frozen? ⟨R + 1, 0, none⟩ = false ∧ wr.frozen? ⟨R + 1, 1, none⟩ = false ∧ wr.frozen? ⟨R + 1, 2, none⟩ = false) ∧
    (wr.frozen? ⟨R, 0, none⟩ = false ∧ wr.frozen? ⟨R, 1, none⟩ = false ∧ wr.frozen? ⟨R, 2, none⟩ = false) := by
  obtain ⟨e1, e2, e3, e4, e5, e6, e7, e8⟩ := h
  exact ⟨⟨by rw [blk_cell e6]; rfl, by rw [blk_cell e6]; rfl, by rw [blk_cell e6]; rfl⟩, ⟨by rw [blk_cell e7]; rfl, by rw [blk_cell e7]; rfl, by rw [blk_cell e7]; rfl⟩,
    ⟨blk_frozen e6 _, blk_frozen e6 _, blk_frozen e6 _⟩, blk_frozen e7 _, blk_frozen e7 _, blk_frozen e7 _⟩
/-- What is read so far, and an exponent behind it, is a number. -/
theorem RdAt.num {w0 wr : World} {R k n c : Nat} {neg p : Bool} {s a b sg l ex : List UInt8} {A : Option Addr} {x : Int} (h : RdAt w0 R neg s k a b p A n c wr) (hl : l = sg ++ s) (hs : SgnOk sg neg) (hd : s.drop k = ex) (hx : ExOk ex x) (hne : a.length + b.length ≠ 0) :
    NumText l neg (a ++ b) (x - b.length) := by
  obtain ⟨e1, e2, e3, e4, e5, e6, e7, e8⟩ := h
  refine ⟨sg, a, dotOf p, b, ex, x, ?_, hs, e2, e3, dotOk_of e4, ?_, hx, rfl, rfl⟩
  · rw [hl, ← e1, ← hd, List.take_append_drop]
  · intro e
    have := congrArg List.length e
    rw [List.length_append, List.length_nil] at this
    omega
theorem exOk_of {c : UInt8} {t : List UInt8} {x : Int} (hc : c = 101 ∨ c = 69) (h : ExTail t x) : ExOk (c :: t) x := by
  obtain ⟨sg, n, ds, rfl, h1, h2, h3, h4, h5⟩ := h
  exact .inr ⟨c, sg, n, ds, rfl, hc, h1, h2, h3, h4, h5⟩
end Go.Proofs.YteokhhepnoelhaaGreatDoor
