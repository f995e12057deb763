/-
  apd.consumePrefix: what it returns at every text and prefix.
-/
import Derived.Test.YteokhhepnoelhaaGreatDoorBase
import Derived.Test.YteokhhepnoelhaaGreatDoorShelf
set_option linter.unusedVariables false
set_option linter.unusedSimpArgs false
namespace Go.Proofs.YteokhhepnoelhaaGreatDoor
open Go.RowKit

theorem str_size (l : List UInt8) : (ByteArray.mk l.toArray).size = l.length := by simp [ByteArray.size]
theorem str_extract (l : List UInt8) (n m : Nat) (_hm : m ≤ l.length) : (ByteArray.mk l.toArray).extract n m = ⟨((l.take m).drop n).toArray⟩ := by
  apply ByteArray.ext
  rw [ByteArray.data_extract]
  apply Array.ext'
  simp [List.drop_take]
theorem str_drop (l : List UInt8) (n : Nat) : (ByteArray.mk l.toArray).extract n l.length = ⟨(l.drop n).toArray⟩ := by
  rw [str_extract l n l.length (Nat.le_refl _), List.take_length]

theorem prefix_len {l p : List UInt8} (h : Lib.hasPrefix l p = true) : p.length ≤ l.length := by
  unfold Lib.hasPrefix at h
  exact (List.isPrefixOf_iff_prefix.1 h).length_le

set_option maxHeartbeats 400000 in
theorem consumePrefix_yes (l p : List UInt8) (w : World) (h : Lib.hasPrefix l p = true) :
    Calls Tryz.prog 51 #[.string ⟨l.toArray⟩, .string ⟨p.toArray⟩] w fun e w' => e = .returned (.tuple #[.string ⟨(l.drop p.length).toArray⟩, .bool true]) ∧ w = w' := by
  have hp := prefix_len h
  have H := hid (str_drop l p.length)
  have _hz := str_size l
  have _hz2 := str_size p
  go_enter Tryz.func51, Tryz.ntmps51
  go_wp2_with fail
  refine (Tryz.strings_HasPrefix _ _ _).mono fun e w' ⟨he, hw⟩ => ?_
  subst he; subst hw
  go_wp2
  go_ret2
  exact ⟨by rw [H.out]; rfl, rfl⟩

set_option maxHeartbeats 400000 in
theorem consumePrefix_no (l p : List UInt8) (w : World) (h : Lib.hasPrefix l p = false) :
    Calls Tryz.prog 51 #[.string ⟨l.toArray⟩, .string ⟨p.toArray⟩] w fun e w' => e = .returned (.tuple #[.string ⟨l.toArray⟩, .bool false]) ∧ w = w' := by
  go_enter Tryz.func51, Tryz.ntmps51
  go_wp2_with fail
  refine (Tryz.strings_HasPrefix _ _ _).mono fun e w' ⟨he, hw⟩ => ?_
  subst he; subst hw
  go_wp2
  go_ret2
  exact ⟨rfl, rfl⟩

/-- A text without a prefix that it may have. -/
def cutp (l p : List UInt8) : List UInt8 := if Lib.hasPrefix l p = true then l.drop p.length else l
theorem cutp_yes {l p : List UInt8} (h : Lib.hasPrefix l p = true) : cutp l p = l.drop p.length := by simp [cutp, h]
theorem cutp_no {l p : List UInt8} (h : Lib.hasPrefix l p = false) : cutp l p = l := by simp [cutp, h]

theorem consumePrefix_any (l p : List UInt8) (w : World) :
    Calls Tryz.prog 51 #[.string ⟨l.toArray⟩, .string ⟨p.toArray⟩] w fun e w' => e = .returned (.tuple #[.string ⟨(cutp l p).toArray⟩, .bool (Lib.hasPrefix l p)]) ∧ w = w' := by
  cases h : Lib.hasPrefix l p with
  | true => rw [cutp_yes h]; exact consumePrefix_yes l p w h
  | false => rw [cutp_no h]; exact consumePrefix_no l p w h

/-- What is left of a text behind a sign. -/
def unsign (l : List UInt8) : List UInt8 := if Lib.hasPrefix l [45] = true then cutp l [45] else cutp (cutp l [45]) [43]
theorem unsign_minus {l : List UInt8} (h : Lib.hasPrefix l [45] = true) : unsign l = cutp l [45] := by simp [unsign, h]
theorem unsign_else {l : List UInt8} (h : Lib.hasPrefix l [45] = false) : unsign l = cutp (cutp l [45]) [43] := by simp [unsign, h]

/-! ### A Decimal in memory: block D of six cells (form, negative, exponent, the coefficient's sign, words and mark) -/
def DecAt (w : World) (D : Nat) (f : Int) (n : Bool) (e : Int) (cn : Bool) (A : Value) (m : Bool) : Prop :=
  w.heap[D]? = some (.cells #[.int .i8 f, .bool n, .int .i32 e, .bool cn, A, .bool m] 72 (0, 0))

theorem DecAt.cells {w : World} {D : Nat} {f : Int} {n : Bool} {e : Int} {cn : Bool} {A : Value} {m : Bool} (h : DecAt w D f n e cn A m) :
    (w.cell? ⟨D, 0, none⟩ = some (.int .i8 f) ∧ w.cell? ⟨D, 1, none⟩ = some (.bool n) ∧ w.cell? ⟨D, 2, none⟩ = some (.int .i32 e) ∧ w.cell? ⟨D, 3, none⟩ = some (.bool cn) ∧ w.cell? ⟨D, 4, none⟩ = some A ∧ w.cell? ⟨D, 5, none⟩ = some (.bool m)) ∧
    (w.frozen? ⟨D, 0, none⟩ = false ∧ w.frozen? ⟨D, 1, none⟩ = false ∧ w.frozen? ⟨D, 2, none⟩ = false ∧ w.frozen? ⟨D, 3, none⟩ = false ∧ w.frozen? ⟨D, 4, none⟩ = false ∧ w.frozen? ⟨D, 5, none⟩ = false) :=
  ⟨⟨blk_cell h 0, blk_cell h 1, blk_cell h 2, blk_cell h 3, blk_cell h 4, blk_cell h 5⟩, blk_frozen h 0, blk_frozen h 1, blk_frozen h 2, blk_frozen h 3, blk_frozen h 4, blk_frozen h 5⟩

section
variable {w : World} {D : Nat} {f : Int} {n : Bool} {e : Int} {cn : Bool} {A : Value} {m : Bool}
theorem DecAt.set0 (h : DecAt w D f n e cn A m) (x : Int) : DecAt (w.setCell ⟨D, 0, none⟩ (.int .i8 x)) D x n e cn A m := blk_set h 0 _
theorem DecAt.set1 (h : DecAt w D f n e cn A m) (x : Bool) : DecAt (w.setCell ⟨D, 1, none⟩ (.bool x)) D f x e cn A m := blk_set h 1 _
theorem DecAt.set2 (h : DecAt w D f n e cn A m) (x : Int) : DecAt (w.setCell ⟨D, 2, none⟩ (.int .i32 x)) D f n x cn A m := blk_set h 2 _
theorem DecAt.set3 (h : DecAt w D f n e cn A m) (x : Bool) : DecAt (w.setCell ⟨D, 3, none⟩ (.bool x)) D f n e x A m := blk_set h 3 _
theorem DecAt.set4 (h : DecAt w D f n e cn A m) (x : Value) : DecAt (w.setCell ⟨D, 4, none⟩ x) D f n e cn x m := blk_set h 4 _
theorem DecAt.set5 (h : DecAt w D f n e cn A m) (x : Bool) : DecAt (w.setCell ⟨D, 5, none⟩ (.bool x)) D f n e cn A x := blk_set h 5 _
theorem DecAt.fr {w' : World} {S : Nat → Prop} (h : DecAt w D f n e cn A m) (hF : Fr S w w') (hS : ¬ S D) : DecAt w' D f n e cn A m := hF.blk h hS
end
end Go.Proofs.YteokhhepnoelhaaGreatDoor
