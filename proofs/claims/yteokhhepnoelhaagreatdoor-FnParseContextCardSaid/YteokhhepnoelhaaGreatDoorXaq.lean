/-
  apd's (*Decimal).setString at the texts of infinities and of what is no number.
-/
import Derived.Test.YteokhhepnoelhaaGreatDoorXai
import Derived.Deep.Cut
import Derived.Deep.DeepCutAuto
import Derived.Deep.CutBlock
import Derived.Test.YteokhhepnoelhaaGreatDoorXac
import Derived.Deep.QuietTactic
import Derived.BigQuiet
set_option linter.unusedVariables false
set_option linter.unusedSimpArgs false
namespace Go.Proofs.YteokhhepnoelhaaGreatDoor
open Go.RowKit
def LowerAt (w : World) (D : Nat) (l low : List UInt8) : Prop :=
 Calls Tryz.prog 52 #[.string ⟨(unsign l).toArray⟩] (w.setCell ⟨D, 1, none⟩ (.bool (Lib.hasPrefix l [45]))) fun e w' => e = .returned (.string ⟨low.toArray⟩) ∧ Fr NoB (w.setCell ⟨D, 1, none⟩ (.bool (Lib.hasPrefix l [45]))) w'
def ReaderAt (w : World) (R : Nat) (l : List UInt8) (i p : Int) : Prop := w.heap[R]? = some (.cells #[.string ⟨l.toArray⟩, .int .i64 i, .int .i64 p] 215 (0, 0))
theorem ReaderAt.cells {w : World} {R : Nat} {l : List UInt8} {i p : Int} (h : ReaderAt w R l i p) :
 (w.cell? ⟨R, 0, none⟩ = some (.string ⟨l.toArray⟩) ∧ w.cell? ⟨R, 1, none⟩ = some (.int .i64 i) ∧ w.cell? ⟨R, 2, none⟩ = some (.int .i64 p)) ∧
 (w.frozen? ⟨R, 0, none⟩ = false ∧ w.frozen? ⟨R, 1, none⟩ = false ∧ w.frozen? ⟨R, 2, none⟩ = false) :=
 ⟨⟨blk_cell h 0, blk_cell h 1, blk_cell h 2⟩, blk_frozen h 0, blk_frozen h 1, blk_frozen h 2⟩
theorem str_get (l : List UInt8) (i : Nat) (b : UInt8) (hb : l[i]? = some b) (h : i < (ByteArray.mk l.toArray).size) : (ByteArray.mk l.toArray)[i] = b := by
 obtain ⟨hl, e⟩ := List.getElem?_eq_some_iff.1 hb;show l.toArray[i] = b;simpa using e
theorem ReaderAt.set1 {w : World} {R : Nat} {l : List UInt8} {i p : Int} (h : ReaderAt w R l i p) (x : Int) : ReaderAt (w.setCell ⟨R, 1, none⟩ (.int .i64 x)) R l x p := blk_set h 1 _
theorem ReaderAt.set2 {w : World} {R : Nat} {l : List UInt8} {i p : Int} (h : ReaderAt w R l i p) (x : Int) : ReaderAt (w.setCell ⟨R, 2, none⟩ (.int .i64 x)) R l i x := blk_set h 2 _
theorem ReaderAt.drewN {w : World} {R : Nat} {l : List UInt8} {i p : Int} (h : ReaderAt w R l i p) (n : Nat) : ReaderAt (w.drewN n) R l i p := h
theorem ReaderAt.fr {w w' : World} {S : Nat → Prop} {R : Nat} {l : List UInt8} {i p : Int} (h : ReaderAt w R l i p) (hF : Fr S w w') (hS : ¬ S R) : ReaderAt w' R l i p := hF.blk h hS
def ReadEnd (w : World) (R : Nat) (l : List UInt8) (i : Nat) (b : Int) (e : Ending) (w' : World) : Prop :=
 e = .returned (.tuple #[.int .u8 b, .nilIface]) ∧ ReaderAt w' R l ((i : Int) + 1) (-1) ∧ Fr (fun k => k = R) w w'
set_option maxHeartbeats 1000000 in
theorem readByte_in (R : Nat) (l : List UInt8) (i : Nat) (p : Int) (b : UInt8) (w : World) (hR : ReaderAt w R l i p) (hb : l[i]? = some b) (hl : l.length ≤ 1000000) :
 Calls Tryz.prog 349 #[.pointer (some ⟨R, 0, none⟩)] w (ReadEnd w R l i b.toNat) := by
 obtain ⟨⟨r0, r1, r2⟩, f0, f1, f2⟩ := hR.cells;have hi : i < l.length := (List.getElem?_eq_some_iff.1 hb).1;have HR := hid hR; have HB := hid hb;have hz := str_size l;clear hR hb;have hiz : (i : Int) < (l.length : Int) := by omega
 go_enter Tryz.func349, Tryz.ntmps349;go_wp2
 go_quiet (fail);go_wp2
 go_quiet (fail);go_wp2
 go_ret2;refine ⟨?_, ?_, ?_⟩;· show Ending.returned (.tuple #[.int .u8 (((ByteArray.mk l.toArray)[i]).toNat : Int), .nilIface]) = _;rw [str_get l i b HB.out]
 · exact ((HR.out.set2 (-1)).drewN _).set1 _
 · exact ((((Fr.refl (fun k => k = R) w).setCell (fun _ => rfl) _).drewN _).setCell (fun _ => rfl) _)
theorem readByte_end (R : Nat) (l : List UInt8) (p : Int) (E : Value) (w : World) (hR : ReaderAt w R l l.length p) (hE : w.cell? ⟨5, 0, none⟩ = some E) (h5 : 5 ≠ R) (hl : l.length ≤ 1000000) :
 Calls Tryz.prog 349 #[.pointer (some ⟨R, 0, none⟩)] w fun e w' => e = .returned (.tuple #[.int .u8 0, E]) ∧ ReaderAt w' R l l.length (-1) ∧ Fr (fun k => k = R) w w' := by
 obtain ⟨⟨r0, r1, r2⟩, f0, f1, f2⟩ := hR.cells;have HR := hid hR;have hz := str_size l;clear hR;go_enter Tryz.func349, Tryz.ntmps349;go_wp2
 go_quiet (fail);go_wp2
 go_quiet (fail);go_wp2
 go_ret2;refine ⟨rfl, ?_, ?_⟩;· exact ((HR.out.set2 (-1)).drewN _).drewN _
 · exact ((((Fr.refl (fun k => k = R) w).setCell (fun _ => rfl) _).drewN _).drewN _)
theorem unreadByte (R : Nat) (l : List UInt8) (i : Nat) (p : Int) (w : World) (hR : ReaderAt w R l ((i : Int) + 1) p) (hi : i ≤ 1000000) :
 Calls Tryz.prog 350 #[.pointer (some ⟨R, 0, none⟩)] w fun e w' => e = .returned .nilIface ∧ ReaderAt w' R l i (-1) ∧ Fr (fun k => k = R) w w' := by
 obtain ⟨⟨r0, r1, r2⟩, f0, f1, f2⟩ := hR.cells;have HR := hid hR;clear hR;have h0 : ¬ ((i : Int) + 1 ≤ 0) := by omega
 go_enter Tryz.func350, Tryz.ntmps350;go_wp2
 go_ret;refine ⟨rfl, ?_, ?_⟩;· have h := (HR.out.set2 (-1)).set1 (i : Int);exact h
 · exact (((Fr.refl (fun k => k = R) w).setCell (fun _ => rfl) _).setCell (fun _ => rfl) _)
theorem newReader (l : List UInt8) (w : World) :
 Calls Tryz.prog 131 #[.string ⟨l.toArray⟩] w fun e w' => e = .returned (.pointer (some ⟨w.heap.size, 0, none⟩)) ∧ ReaderAt w' w.heap.size l 0 (-1) ∧ Fr NoB w w' := by
 go_enter Tryz.func131, Tryz.ntmps131;go_wp2
 go_ret;exact ⟨rfl, blk_new w _, (Fr.refl _ _).alloc _⟩
end Go.Proofs.YteokhhepnoelhaaGreatDoor
