/-
  big.Int and apd.BigInt in memory: SetInt64, NewBigInt, Exp at the base 10.
-/
import Derived.Test.YteokhhepnoelhaaGreatDoorExpNNb
set_option linter.unusedVariables false
set_option linter.unusedSimpArgs false
namespace Go.Proofs.YteokhhepnoelhaaGreatDoor
open Go.RowKit

/-- A block of cells, known whole. -/
def BlkAt (w : World) (B : Nat) (cs : Array Value) (t : TypeId) : Prop := w.heap[B]? = some (.cells cs t (0, 0))
/-- The cells of a big.Int from place o on, set. -/
def setInt (cs : Array Value) (o : Nat) (v : Value) : Array Value := (cs.setIfInBounds (o + 1) v).setIfInBounds o (.bool false)

def IntRes (w : World) (B o : Nat) (cs : Array Value) (t : TypeId) (n : Nat) (w' : World) : Prop :=
  ∃ v', BlkAt w' B (setInt cs o v') t ∧ NatAt w' v' (limbs n) ∧ (∀ g, natBlk v' = some g → w.heap.size ≤ g) ∧ Fr (fun i => i = B) w w'

set_option maxRecDepth 100000 in
set_option maxHeartbeats 1000000 in
theorem intSetInt64 (B o : Nat) (cs : Array Value) (t : TypeId) (n0 : Bool) (x : Nat) (w : World) (hB : BlkAt w B cs t) (h0 : cs[o]? = some (.bool n0)) (h1 : cs[o + 1]? = some (.slice none 0 0)) (hx : x < 9223372036854775808) :
    Calls Tryz.prog 81 #[.pointer (some ⟨B, o, none⟩), .int .i64 (x : Int)] w fun e w' => e = .returned (.pointer (some ⟨B, o, none⟩)) ∧ IntRes w B o cs t x w' := by
  have HS := hid (natSetWord (.slice none 0 0) [] x (by rw [WB_eq]; omega) w (NatAt.nil _))
  have k0 : w.cell? ⟨B, o, none⟩ = some (.bool n0) := by rw [blk_cell hB]; exact h0
  have k1 : w.cell? ⟨B, o + 1, none⟩ = some (.slice none 0 0) := by rw [blk_cell hB]; exact h1
  have HB := hid hB; have H0 := hid h0; have H1 := hid h1
  have hxx : IntKind.u64.wrap (x : Int) = (x : Int) := by rw [u64_wrap]; omega
  clear hB h0 h1
  go_enter Tryz.func81, Tryz.ntmps81
  go_wp2_with (first | (go_at_call 122; go_in))
  refine HS.out.mono ?_
  rintro e w1 ⟨v', rfl, r1, r2, r3⟩
  have hF : Fr NoB w w1 := r2.mono (fun i hi h => by cases h)
  have hb1 : BlkAt w1 B cs t := hF.blk HB.out (fun h => h)
  have k0' : w1.cell? ⟨B, o, none⟩ = some (.bool n0) := by rw [blk_cell hb1]; exact H0.out
  have f0' : w1.frozen? ⟨B, o, none⟩ = false := blk_frozen hb1 _
  have k1' : w1.cell? ⟨B, o + 1, none⟩ = some (.slice none 0 0) := by rw [blk_cell hb1]; exact H1.out
  have f1' : w1.frozen? ⟨B, o + 1, none⟩ = false := blk_frozen hb1 _
  have s1 := blk_set hb1 (o + 1) v'
  have s0 := blk_set s1 o (.bool false)
  have hfin : IntRes w B o cs t x ((w1.setCell ⟨B, o + 1, none⟩ v').setCell ⟨B, o, none⟩ (.bool false)) := by
    refine ⟨v', s0, ?_, fun g hg => (r3 g hg).resolve_left (by intro h; cases h), ?_⟩
    · have hF2 : Fr (fun i => i = B) w1 ((w1.setCell ⟨B, o + 1, none⟩ v').setCell ⟨B, o, none⟩ (.bool false)) :=
        Fr.setCell (S := fun i => i = B) (p := ⟨B, o, none⟩) (Fr.setCell (S := fun i => i = B) (p := ⟨B, o + 1, none⟩) (Fr.refl _ _) (fun _ => rfl) _) (fun _ => rfl) _
      exact r1.fr hF2 (fun g hg h => by
        have h : g = B := h
        have h2 := (r3 g hg).resolve_left (by intro h; cases h)
        have h3 := blk_lt HB.out
        omega)
    · exact Fr.setCell (S := fun i => i = B) (p := ⟨B, o, none⟩) (Fr.setCell (S := fun i => i = B) (p := ⟨B, o + 1, none⟩) (hF.mono (fun _ _ h => h.elim)) (fun _ => rfl) _) (fun _ => rfl) _
  have hsh := r1.shape
  obtain ⟨A, c, rfl⟩ := hsh
  have FIN := hid hfin
  have k0'' : (w1.setCell ⟨B, o + 1, none⟩ (.slice A (limbs x).length c)).cell? ⟨B, o, none⟩ = some (.bool n0) := by
    rw [blk_cell s1, Array.getElem?_setIfInBounds, if_neg (by omega)]; exact H0.out
  have f0'' : (w1.setCell ⟨B, o + 1, none⟩ (.slice A (limbs x).length c)).frozen? ⟨B, o, none⟩ = false := blk_frozen s1 _
  clear hfin s0 s1 hb1 hF r1 r2 r3
  generalize (limbs x).length = n at *
  go_wp2_with fail
  go_ret
  exact ⟨rfl, FIN.out⟩

set_option maxRecDepth 100000 in
set_option maxHeartbeats 1000000 in
theorem bigSetInt64 (B o : Nat) (cs : Array Value) (t : TypeId) (n0 m0 : Bool) (x : Nat) (w : World) (hB : BlkAt w B cs t) (h0 : cs[o]? = some (.bool n0)) (h1 : cs[o + 1]? = some (.slice none 0 0)) (h2 : cs[o + 2]? = some (.bool m0)) (hx : x < 9223372036854775808) :
    Calls Tryz.prog 53 #[.pointer (some ⟨B, o, none⟩), .int .i64 (x : Int)] w fun e w' => e = .returned (.pointer (some ⟨B, o, none⟩)) ∧ IntRes w B o (cs.setIfInBounds (o + 2) (.bool false)) t x w' := by
  have k2 : w.cell? ⟨B, o + 2, none⟩ = some (.bool m0) := by rw [blk_cell hB]; exact h2
  have f2 : w.frozen? ⟨B, o + 2, none⟩ = false := blk_frozen hB _
  have s2 := blk_set hB (o + 2) (.bool false)
  have HI := intSetInt64 B o (cs.setIfInBounds (o + 2) (.bool false)) t n0 x (w.setCell ⟨B, o + 2, none⟩ (.bool false)) s2 (by rw [Array.getElem?_setIfInBounds, if_neg (by omega)]; exact h0) (by rw [Array.getElem?_setIfInBounds, if_neg (by omega)]; exact h1) hx
  have HI := hid HI
  have hF : Fr (fun i => i = B) w (w.setCell ⟨B, o + 2, none⟩ (.bool false)) := Fr.setCell (S := fun i => i = B) (p := ⟨B, o + 2, none⟩) (Fr.refl _ _) (fun _ => rfl) _
  have HF := hid hF
  have HSZ : Hid ((w.setCell ⟨B, o + 2, none⟩ (.bool false)).heap.size = w.heap.size) := hid (by simp)
  clear hB h0 h1 h2 s2 hF
  go_enter Tryz.func53, Tryz.ntmps53
  go_wp2_with fail
  refine HI.out.mono ?_
  rintro e w1 ⟨rfl, v', r1, r2, r3, r4⟩
  have N := hid (show IntRes w B o (cs.setIfInBounds (o + 2) (.bool false)) t x w1 from ⟨v', r1, r2, fun g hg => by have := r3 g hg; rw [HSZ.out] at this; exact this, HF.out.trans r4 (fun _ _ h => h)⟩)
  clear r1 r2 r3 r4
  go_wp2_with fail
  go_ret
  exact ⟨rfl, N.out⟩

/-- A new BigInt that holds n. -/
def NewBig (w : World) (n : Nat) (e : Ending) (w' : World) : Prop :=
  e = .returned (.pointer (some ⟨w.heap.size, 0, none⟩)) ∧ ∃ v', BlkAt w' w.heap.size #[.bool false, v', .bool false] 70 ∧ NatAt w' v' (limbs n) ∧ (∀ g, natBlk v' = some g → w.heap.size < g) ∧ Fr NoB w w'

set_option maxRecDepth 100000 in
set_option maxHeartbeats 1000000 in
theorem newBigInt (x : Nat) (hx : x < 9223372036854775808) (w : World) : Calls Tryz.prog 146 #[.int .i64 (x : Int)] w (NewBig w x) := by
  have hb := blk_new w (.cells #[.bool false, .slice none 0 0, .bool false] 70 (0, 0))
  have HI := hid (intSetInt64 w.heap.size 0 #[.bool false, .slice none 0 0, .bool false] 70 false x (w.alloc (.cells #[.bool false, .slice none 0 0, .bool false] 70)) hb rfl rfl hx)
  have hF : Fr NoB w (w.alloc (.cells #[.bool false, .slice none 0 0, .bool false] 70)) := (Fr.refl _ _).alloc _
  have hsz : (w.alloc (.cells #[.bool false, .slice none 0 0, .bool false] 70)).heap.size = w.heap.size + 1 := by simp
  have fin : ∀ w1, IntRes (w.alloc (.cells #[.bool false, .slice none 0 0, .bool false] 70)) w.heap.size 0 #[.bool false, .slice none 0 0, .bool false] 70 x w1 → NewBig w x (.returned (.pointer (some ⟨w.heap.size, 0, none⟩))) w1 := by
    rintro w1 ⟨v', r1, r2, r3, r4⟩
    exact ⟨rfl, v', r1, r2, fun g hg => by have := r3 g hg; omega, hF.trans r4 (fun i hi h => by have h : i = w.heap.size := h; omega)⟩
  have FIN := hid fin
  clear hb hF hsz fin
  go_enter Tryz.func146, Tryz.ntmps146
  go_wp2_with fail
  refine HI.out.mono ?_
  rintro e w1 ⟨rfl, r⟩
  have N := hid (FIN.out w1 r)
  clear r
  go_wp2_with fail
  go_ret
  exact N.out

theorem bigTen_any (w : World) : Calls Tryz.prog 151 #[] w (NewBig w 10) := by
  have H := hid (newBigInt 10 (by omega) w)
  go_enter Tryz.func151, Tryz.ntmps151
  go_wp2_with fail
  refine H.out.mono ?_
  rintro e w1 ⟨rfl, r⟩
  have N := hid (show NewBig w 10 _ w1 from ⟨rfl, r⟩)
  clear r
  go_wp2_with fail
  go_ret
  exact N.out

set_option maxRecDepth 100000 in
set_option maxHeartbeats 2000000 in
theorem intExp (Z oz X ox Y oy : Nat) (cs : Array Value) (t : TypeId) (n0 : Bool) (vx vy : Value) (self : Bool) (k : Nat) (w : World) (hZ : BlkAt w Z cs t) (h0 : cs[oz]? = some (.bool n0)) (h1 : cs[oz + 1]? = some (if self then vx else .slice none 0 0))
    (x0 : w.cell? ⟨X, ox, none⟩ = some (.bool false)) (x1 : w.cell? ⟨X, ox + 1, none⟩ = some vx) (y0 : w.cell? ⟨Y, oy, none⟩ = some (.bool false)) (y1 : w.cell? ⟨Y, oy + 1, none⟩ = some vy)
    (hx : NatAt w vx [10]) (hy : NatAt w vy [k]) (hT : Thr w) (hk : 1 ≤ k) (hk' : k ≤ 100) (hXZ : (X = Z ∧ ox = oz) ∨ X ≠ Z) :
    Calls Tryz.prog 239 #[.pointer (some ⟨Z, oz, none⟩), .pointer (some ⟨X, ox, none⟩), .pointer (some ⟨Y, oy, none⟩), .pointer none, .bool false] w
      fun e w' => e = .returned (.pointer (some ⟨Z, oz, none⟩)) ∧ IntRes w Z oz cs t (10 ^ k) w' := by
  have HE := hid (expNN_any vx vy self k w hx hy hT hk hk')
  have z0 : w.cell? ⟨Z, oz, none⟩ = some (.bool n0) := by rw [blk_cell hZ]; exact h0
  have z1 : w.cell? ⟨Z, oz + 1, none⟩ = some (if self then vx else .slice none 0 0) := by rw [blk_cell hZ]; exact h1
  have hsx := hx.shape
  obtain ⟨A, c, rfl⟩ := hx.shape
  obtain ⟨A', c', rfl⟩ := hy.shape
  rw [show ([10] : List Nat).length = 1 from rfl, show ([k] : List Nat).length = 1 from rfl] at *
  have HZ := hid hZ; have H0 := hid h0; have H1 := hid h1; have X0 := hid x0; have XZ := hid hXZ
  have hzv : ∃ A2 n2 c2, (if self then Value.slice A 1 c else .slice none 0 0) = .slice A2 n2 c2 := by cases self <;> exact ⟨_, _, _, rfl⟩
  obtain ⟨A2, n2, c2, hz2⟩ := hzv
  rw [hz2] at z1 HE H1 h1
  clear hZ h0 h1 hx hy hT hXZ hsx hz2
  go_enter Tryz.func239, Tryz.ntmps239
  go_wp2_with fail
  refine HE.out.mono ?_
  rintro e w1 ⟨v', rfl, r1, hF, r3⟩
  have hb1 : BlkAt w1 Z cs t := hF.blk HZ.out (fun h => h)
  have k1' : w1.cell? ⟨Z, oz + 1, none⟩ = some (.slice A2 n2 c2) := by rw [blk_cell hb1]; exact H1.out
  have f1' : w1.frozen? ⟨Z, oz + 1, none⟩ = false := blk_frozen hb1 _
  obtain ⟨Av, cv, rfl⟩ := r1.shape
  have s1 := blk_set hb1 (oz + 1) (.slice Av (limbs (10 ^ k)).length cv)
  have s0 := blk_set s1 oz (.bool false)
  have hlt : (oz + 1) < cs.size := (Array.getElem?_eq_some_iff.1 H1.out).1
  have q1 : (w1.setCell ⟨Z, oz + 1, none⟩ (.slice Av (limbs (10 ^ k)).length cv)).cell? ⟨Z, oz + 1, none⟩ = some (.slice Av (limbs (10 ^ k)).length cv) := by
    rw [blk_cell s1, Array.getElem?_setIfInBounds, if_pos rfl, if_pos hlt]
  have qx : (w1.setCell ⟨Z, oz + 1, none⟩ (.slice Av (limbs (10 ^ k)).length cv)).cell? ⟨X, ox, none⟩ = some (.bool false) := by
    have hx1 : w1.cell? ⟨X, ox, none⟩ = some (.bool false) := hF.cell' X0.out (fun h => h)
    rcases XZ.out with ⟨rfl, rfl⟩ | h
    · rw [blk_cell s1, Array.getElem?_setIfInBounds, if_neg (by omega), ← blk_cell hb1]; exact hx1
    · have hF2 : Fr (fun i => i = Z) w1 (w1.setCell ⟨Z, oz + 1, none⟩ (.slice Av (limbs (10 ^ k)).length cv)) := Fr.setCell (S := fun i => i = Z) (p := ⟨Z, oz + 1, none⟩) (Fr.refl _ _) (fun _ => rfl) _
      exact hF2.cell' hx1 h
  have q0 : (w1.setCell ⟨Z, oz + 1, none⟩ (.slice Av (limbs (10 ^ k)).length cv)).cell? ⟨Z, oz, none⟩ = some (.bool n0) := by
    rw [blk_cell s1, Array.getElem?_setIfInBounds, if_neg (by omega)]; exact H0.out
  have g0 : (w1.setCell ⟨Z, oz + 1, none⟩ (.slice Av (limbs (10 ^ k)).length cv)).frozen? ⟨Z, oz, none⟩ = false := blk_frozen s1 _
  have hfin : IntRes w Z oz cs t (10 ^ k) ((w1.setCell ⟨Z, oz + 1, none⟩ (.slice Av (limbs (10 ^ k)).length cv)).setCell ⟨Z, oz, none⟩ (.bool false)) := by
    have hF2 : ∀ a, Fr (fun i => i = Z) a w1 → Fr (fun i => i = Z) a ((w1.setCell ⟨Z, oz + 1, none⟩ (.slice Av (limbs (10 ^ k)).length cv)).setCell ⟨Z, oz, none⟩ (.bool false)) := fun a ha =>
      Fr.setCell (S := fun i => i = Z) (p := ⟨Z, oz, none⟩) (Fr.setCell (S := fun i => i = Z) (p := ⟨Z, oz + 1, none⟩) ha (fun _ => rfl) _) (fun _ => rfl) _
    refine ⟨_, s0, r1.fr (hF2 w1 (Fr.refl _ _)) (fun g hg h => ?_), r3, hF2 w (hF.mono (fun _ _ h => h.elim))⟩
    have h : g = Z := h
    have h2 := r3 g hg
    have h3 := blk_lt HZ.out
    omega
  have FIN := hid hfin
  have hl1 := limbs_len_pos (pow_ne k)
  have q3 : ((w1.setCell ⟨Z, oz + 1, none⟩ (.slice Av (limbs (10 ^ k)).length cv)).setCell ⟨Z, oz, none⟩ (.bool false)).cell? ⟨Z, oz, none⟩ = some (.bool false) := by
    rw [blk_cell s0, Array.getElem?_setIfInBounds, if_pos rfl, if_pos (by simp; omega)]
  have hd : decide (0 < (limbs (10 ^ k)).length) = true := decide_eq_true (by omega)
  clear hfin s0 s1 hb1 hF r1 r3
  generalize (limbs (10 ^ k)).length = n at *
  go_wp2_with fail
  go_ret
  exact ⟨rfl, FIN.out⟩
end Go.Proofs.YteokhhepnoelhaaGreatDoor
