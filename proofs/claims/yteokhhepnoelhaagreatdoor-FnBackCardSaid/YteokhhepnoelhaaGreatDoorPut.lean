/-
  Plain facts: values laid into a row of cells from a place on; numbers by their words.
-/
import Derived.Test.YteokhhepnoelhaaGreatDoorBase
set_option linter.unusedVariables false
set_option linter.unusedSimpArgs false
namespace Go.Proofs.YteokhhepnoelhaaGreatDoor
open Go.RowKit

def putV (cs : Array Value) (o : Nat) : List Value → Array Value
  | [] => cs
  | v :: vs => putV (cs.setIfInBounds o v) (o + 1) vs

theorem putV_size (vs : List Value) : ∀ (cs : Array Value) (o : Nat), (putV cs o vs).size = cs.size := by
  induction vs with
  | nil => intro cs o; rfl
  | cons v vs ih => intro cs o; rw [putV, ih]; simp

theorem putV_snoc (vs : List Value) (v : Value) : ∀ (cs : Array Value) (o : Nat), putV cs o (vs ++ [v]) = (putV cs o vs).setIfInBounds (o + vs.length) v := by
  induction vs with
  | nil => intro cs o; simp [putV]
  | cons u vs ih =>
    intro cs o
    rw [List.cons_append, putV, ih, putV]
    congr 1
    simp; omega

theorem putV_get_out (vs : List Value) : ∀ (cs : Array Value) (o i : Nat), (i < o ∨ o + vs.length ≤ i) → (putV cs o vs)[i]? = cs[i]? := by
  induction vs with
  | nil => intro cs o i _; rfl
  | cons v vs ih =>
    intro cs o i h
    rw [List.length_cons] at h
    rw [putV, ih _ _ _ (by omega), Array.getElem?_setIfInBounds, if_neg (by omega)]

theorem putV_get_in (vs : List Value) : ∀ (cs : Array Value) (o i : Nat), o + vs.length ≤ cs.size → i < vs.length → (putV cs o vs)[o + i]? = vs[i]? := by
  induction vs with
  | nil => intro cs o i _ h; simp at h
  | cons v vs ih =>
    intro cs o i h hi
    rw [List.length_cons] at h hi
    rw [putV]
    cases i with
    | zero =>
      rw [putV_get_out _ _ _ _ (.inl (by omega)), Nat.add_zero, Array.getElem?_setIfInBounds, if_pos rfl, if_pos (by omega)]
      rfl
    | succ i =>
      rw [show o + (i + 1) = (o + 1) + i by omega, ih _ _ _ (by simp; omega) (by omega)]
      rfl

theorem putV_append (us vs : List Value) : ∀ (cs : Array Value) (o : Nat), putV cs o (us ++ vs) = putV (putV cs o us) (o + us.length) vs := by
  induction us with
  | nil => intro cs o; simp [putV]
  | cons u us ih =>
    intro cs o
    rw [List.cons_append, putV, ih, putV]
    congr 1
    simp; omega

/-- Words as cells. -/
def u64s (xs : List Nat) : List Value := xs.map fun (x : Nat) => Value.int .u64 (x : Int)
theorem u64s_length (xs : List Nat) : (u64s xs).length = xs.length := by simp [u64s]
theorem u64s_get (xs : List Nat) (i : Nat) : (u64s xs)[i]? = xs[i]?.map fun (x : Nat) => Value.int .u64 (x : Int) := by simp [u64s]
theorem u64s_append (xs ys : List Nat) : u64s (xs ++ ys) = u64s xs ++ u64s ys := by simp [u64s]

/-- A cell that stands n places on, as the address adds up. -/
theorem add_plain (g o j : Nat) : (⟨g, o, none⟩ : Addr).add j = ⟨g, o + j, none⟩ := by unfold Addr.add; split <;> simp_all
end Go.Proofs.YteokhhepnoelhaaGreatDoor
