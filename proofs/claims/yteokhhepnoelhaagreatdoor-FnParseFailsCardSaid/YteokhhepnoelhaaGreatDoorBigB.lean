/-
  apd.BigInt.Exp at the base 10, tableExp10; Lsh of 1; String.
-/
import Derived.Test.YteokhhepnoelhaaGreatDoorBigA
set_option linter.unusedVariables false
set_option linter.unusedSimpArgs false
namespace Go.Proofs.YteokhhepnoelhaaGreatDoor
open Go.RowKit

theorem intExpDoor (Z oz X ox Y oy : Nat) (cs : Array Value) (t : TypeId) (n0 : Bool) (vx vy : Value) (self : Bool) (k : Nat) (w : World) (hZ : BlkAt w Z cs t) (h0 : cs[oz]? = some (.bool n0)) (h1 : cs[oz + 1]? = some (if self then vx else .slice none 0 0))
    (x0 : w.cell? ⟨X, ox, none⟩ = some (.bool false)) (x1 : w.cell? ⟨X, ox + 1, none⟩ = some vx) (y0 : w.cell? ⟨Y, oy, none⟩ = some (.bool false)) (y1 : w.cell? ⟨Y, oy + 1, none⟩ = some vy)
    (hx : NatAt w vx [10]) (hy : NatAt w vy [k]) (hT : Thr w) (hk : 1 ≤ k) (hk' : k ≤ 100) (hXZ : (X = Z ∧ ox = oz) ∨ X ≠ Z) :
    Calls Tryz.prog 207 #[.pointer (some ⟨Z, oz, none⟩), .pointer (some ⟨X, ox, none⟩), .pointer (some ⟨Y, oy, none⟩), .pointer none] w
      fun e w' => e = .returned (.pointer (some ⟨Z, oz, none⟩)) ∧ IntRes w Z oz cs t (10 ^ k) w' := by
  have H := hid (intExp Z oz X ox Y oy cs t n0 vx vy self k w hZ h0 h1 x0 x1 y0 y1 hx hy hT hk hk' hXZ)
  clear hZ h0 h1 x0 x1 y0 y1 hx hy hT hXZ
  go_enter Tryz.func207, Tryz.ntmps207
  go_wp2_with fail
  refine H.out.mono ?_
  rintro e w1 ⟨rfl, r⟩
  have N := hid r
  clear r
  go_wp2_with fail
  go_ret
  exact ⟨rfl, N.out⟩

set_option maxRecDepth 100000 in
set_option maxHeartbeats 2000000 in
theorem bigExp (Z oz X ox Y oy : Nat) (cs : Array Value) (t : TypeId) (n0 m0 : Bool) (vx vy : Value) (self : Bool) (k : Nat) (w : World) (hZ : BlkAt w Z cs t) (h0 : cs[oz]? = some (.bool n0)) (h1 : cs[oz + 1]? = some (if self then vx else .slice none 0 0)) (h2 : cs[oz + 2]? = some (.bool m0))
    (x0 : w.cell? ⟨X, ox, none⟩ = some (.bool false)) (x1 : w.cell? ⟨X, ox + 1, none⟩ = some vx) (y0 : w.cell? ⟨Y, oy, none⟩ = some (.bool false)) (y1 : w.cell? ⟨Y, oy + 1, none⟩ = some vy)
    (hx : NatAt w vx [10]) (hy : NatAt w vy [k]) (hT : Thr w) (hk : 1 ≤ k) (hk' : k ≤ 100) (hXZ : (X = Z ∧ ox = oz) ∨ X ≠ Z) (hYZ : Y ≠ Z) (hxZ : ∀ g, natBlk vx = some g → g ≠ Z) (hyZ : ∀ g, natBlk vy = some g → g ≠ Z) (hZ19 : 19 ≤ Z) :
    Calls Tryz.prog 178 #[.pointer (some ⟨Z, oz, none⟩), .pointer (some ⟨X, ox, none⟩), .pointer (some ⟨Y, oy, none⟩)] w
      fun e w' => e = .returned (.pointer (some ⟨Z, oz, none⟩)) ∧ IntRes w Z oz (cs.setIfInBounds (oz + 2) (.bool false)) t (10 ^ k) w' := by
  have z2 : w.cell? ⟨Z, oz + 2, none⟩ = some (.bool m0) := by rw [blk_cell hZ]; exact h2
  have f2 : w.frozen? ⟨Z, oz + 2, none⟩ = false := blk_frozen hZ _
  have s2 := blk_set hZ (oz + 2) (.bool false)
  have hF : Fr (fun i => i = Z) w (w.setCell ⟨Z, oz + 2, none⟩ (.bool false)) := Fr.setCell (S := fun i => i = Z) (p := ⟨Z, oz + 2, none⟩) (Fr.refl _ _) (fun _ => rfl) _
  have keep : ∀ (i : Nat) (u : Value), w.cell? ⟨X, ox + i, none⟩ = some u → i ≤ 1 → (w.setCell ⟨Z, oz + 2, none⟩ (.bool false)).cell? ⟨X, ox + i, none⟩ = some u := fun i u hu hi => by
    rcases hXZ with ⟨rfl, rfl⟩ | h
    · rw [blk_cell s2, Array.getElem?_setIfInBounds, if_neg (by omega), ← blk_cell hZ]; exact hu
    · exact hF.cell' hu h
  have hE := intExpDoor Z oz X ox Y oy (cs.setIfInBounds (oz + 2) (.bool false)) t n0 vx vy self k (w.setCell ⟨Z, oz + 2, none⟩ (.bool false)).drew s2
    (by rw [Array.getElem?_setIfInBounds, if_neg (by omega)]; exact h0) (by rw [Array.getElem?_setIfInBounds, if_neg (by omega)]; exact h1)
    (keep 0 _ x0 (by omega)) (keep 1 _ x1 (by omega)) (hF.cell' y0 hYZ) (hF.cell' y1 hYZ) ((hx.fr hF (fun g hg h => hxZ g hg h) : NatAt (w.setCell ⟨Z, oz + 2, none⟩ (.bool false)) vx [10])) ((hy.fr hF (fun g hg h => hyZ g hg h) : NatAt (w.setCell ⟨Z, oz + 2, none⟩ (.bool false)) vy [k])) (hT.fr hF.drew (fun i hi h => by have h : i = Z := h; omega)) hk hk' hXZ
  have HE := hid hE; have HF := hid hF
  have HSZ : Hid ((w.setCell ⟨Z, oz + 2, none⟩ (.bool false)).heap.size = w.heap.size) := hid (by simp)
  clear hE hF keep s2 hZ h0 h1 h2 x0 x1 y0 y1 hx hy hT hXZ hYZ hxZ hyZ
  go_enter Tryz.func178, Tryz.ntmps178
  go_wp2_with fail
  go_region_with (first | (go_at_call 207; refine HE.out.mono ?_; rintro e w1 ⟨rfl, r⟩; have R := hid r; clear r))
  obtain ⟨v', r1, r2, r3, r4⟩ := R.out
  have N := hid (show IntRes w Z oz (cs.setIfInBounds (oz + 2) (.bool false)) t (10 ^ k) w1 from ⟨v', r1, r2, fun g hg => by have := r3 g hg; exact Nat.le_trans (Nat.le_of_eq HSZ.out.symm) this, HF.out.drew.trans r4 (fun _ _ h => h)⟩)
  clear r1 r2 r3 r4 R
  go_wp2_with fail
  go_ret
  exact ⟨rfl, N.out⟩
end Go.Proofs.YteokhhepnoelhaaGreatDoor
