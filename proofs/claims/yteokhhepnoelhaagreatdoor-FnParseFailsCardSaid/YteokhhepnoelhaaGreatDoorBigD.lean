/-
  big.Int.Set, Neg; digitsLookup.
-/
import Derived.Test.YteokhhepnoelhaaGreatDoorBigC
set_option linter.unusedVariables false
set_option linter.unusedSimpArgs false
namespace Go.Proofs.YteokhhepnoelhaaGreatDoor
open Go.RowKit

/-- What Int.Set leaves: the other's words in a row of z's own or a new one, the other's sign. -/
def SetRes (w : World) (Z oz : Nat) (cs : Array Value) (t : TypeId) (vz : Value) (nx : Bool) (xs : List Nat) (w' : World) : Prop :=
  ∃ v', BlkAt w' Z ((cs.setIfInBounds (oz + 1) v').setIfInBounds oz (.bool nx)) t ∧ NatAt w' v' xs ∧ (∀ g, natBlk v' = some g → natBlk vz = some g ∨ w.heap.size ≤ g) ∧ Fr (fun i => i = Z ∨ natBlk vz = some i) w w'

set_option maxRecDepth 100000 in
set_option maxHeartbeats 2000000 in
theorem intSet (Z oz X ox : Nat) (cs csx : Array Value) (t tx : TypeId) (nz nx : Bool) (vz vx : Value) (zs xs : List Nat) (w : World) (hZ : BlkAt w Z cs t) (h0 : cs[oz]? = some (.bool nz)) (h1 : cs[oz + 1]? = some vz)
    (hX : BlkAt w X csx tx) (x0 : csx[ox]? = some (.bool nx)) (x1 : csx[ox + 1]? = some vx) (hvz : NatAt w vz zs) (hvx : NatAt w vx xs) (hl : xs.length ≤ 900) (hd : Z = X → ox + 1 < oz ∨ oz + 1 < ox) (hzZ : ∀ g, natBlk vz = some g → g ≠ Z ∧ g ≠ X) :
    Calls Tryz.prog 68 #[.pointer (some ⟨Z, oz, none⟩), .pointer (some ⟨X, ox, none⟩)] w fun e w' => e = .returned (.pointer (some ⟨Z, oz, none⟩)) ∧ SetRes w Z oz cs t vz nx xs w' := by
  have hq := neq102_other (a := ⟨Z, oz, none⟩) (b := ⟨X, ox, none⟩) w (fun e => by
    have e1 : Z = X := congrArg Addr.block e
    have e2 : oz = ox := congrArg Addr.off e
    rcases hd e1 with h | h <;> omega) hZ hX
  have c1 : w.cell? ⟨Z, oz + 1, none⟩ = some vz := by rw [blk_cell hZ]; exact h1
  have cx1 : w.cell? ⟨X, ox + 1, none⟩ = some vx := by rw [blk_cell hX]; exact x1
  have hFd : Fr NoB w w.drew := (Fr.refl _ _).drew
  have HS := hid (natSet vz vx zs xs w.drew (hvz.fr hFd (fun _ _ h => h)) (hvx.fr hFd (fun _ _ h => h)) hl)
  obtain ⟨Az, cz, hz⟩ := hvz.shape
  obtain ⟨Ax, cx, hx⟩ := hvx.shape
  have fin : ∀ (w1 : World) (v' : Value), RowRes w.drew vz xs (.returned v') w1 → ∃ A n c, v' = .slice A n c ∧ BlkAt w1 Z cs t ∧
      (w1.setCell ⟨Z, oz + 1, none⟩ v').cell? ⟨X, ox, none⟩ = some (.bool nx) ∧ SetRes w Z oz cs t vz nx xs ((w1.setCell ⟨Z, oz + 1, none⟩ v').setCell ⟨Z, oz, none⟩ (.bool nx)) := by
    rintro w1 v' ⟨v, hv, r1, r2, r3⟩
    cases hv
    obtain ⟨A, c, hs⟩ := r1.shape
    have hb1 : BlkAt w1 Z cs t := r2.blk hZ (fun h => (hzZ Z h).1 rfl)
    have hbx : BlkAt w1 X csx tx := r2.blk hX (fun h => (hzZ X h).2 rfl)
    have s1 := blk_set hb1 (oz + 1) v'
    have s0 := blk_set s1 oz (.bool nx)
    have hF2 : ∀ a, Fr (fun i => i = Z ∨ natBlk vz = some i) a w1 → Fr (fun i => i = Z ∨ natBlk vz = some i) a ((w1.setCell ⟨Z, oz + 1, none⟩ v').setCell ⟨Z, oz, none⟩ (.bool nx)) := fun a ha =>
      Fr.setCell (S := fun i => i = Z ∨ natBlk vz = some i) (p := ⟨Z, oz, none⟩) (Fr.setCell (S := fun i => i = Z ∨ natBlk vz = some i) (p := ⟨Z, oz + 1, none⟩) ha (fun _ => .inl rfl) _) (fun _ => .inl rfl) _
    refine ⟨_, _, _, hs, hb1, ?_, v', s0, ?_, r3, hF2 w (Fr.trans (S := fun i => i = Z ∨ natBlk vz = some i) (hFd.mono (fun _ _ h => h.elim)) r2 (fun _ _ h => .inr h))⟩
    · by_cases e : X = Z
      · subst e
        have : cs = csx ∧ t = tx := by
          have := hZ.symm.trans hX
          simp at this
          exact this
        rw [blk_cell s1, Array.getElem?_setIfInBounds, if_neg (by rcases hd rfl with h | h <;> omega), this.1]
        exact x0
      · have hF3 : Fr (fun i => i = Z) w1 (w1.setCell ⟨Z, oz + 1, none⟩ v') := Fr.setCell (S := fun i => i = Z) (p := ⟨Z, oz + 1, none⟩) (Fr.refl _ _) (fun _ => rfl) _
        exact hF3.cell' (by rw [blk_cell hbx]; exact x0) e
    · have hF4 : Fr (fun i => i = Z) w1 ((w1.setCell ⟨Z, oz + 1, none⟩ v').setCell ⟨Z, oz, none⟩ (.bool nx)) :=
        Fr.setCell (S := fun i => i = Z) (p := ⟨Z, oz, none⟩) (Fr.setCell (S := fun i => i = Z) (p := ⟨Z, oz + 1, none⟩) (Fr.refl _ _) (fun _ => rfl) _) (fun _ => rfl) _
      refine r1.fr hF4 (fun g hg h => ?_)
      have h : g = Z := h
      rcases r3 g hg with h2 | h2
      · exact (hzZ g h2).1 h
      · have h3 := blk_lt hZ
        have h4 : w.drew.heap.size = w.heap.size := rfl
        omega
  have FIN := hid fin
  have H1 := hid h1; have H0 := hid h0
  clear hvz hvx hX x0 x1 hd hzZ hFd fin h0 h1 hZ
  subst hz; subst hx
  generalize zs.length = n1 at *
  generalize xs.length = n2 at *
  go_enter Tryz.func68, Tryz.ntmps68
  go_wp2_with fail
  go_region_with (first | (go_at_call 110; refine HS.out.mono ?_; rintro e w1 ⟨v', rfl, r1, r2, r3⟩; obtain ⟨A, n, c, rfl, hb1, hcx, hfin⟩ := FIN.out w1 v' ⟨v', rfl, r1, r2, r3⟩; have k1 : w1.cell? ⟨Z, oz + 1, none⟩ = some (.slice Az n1 cz) := (by rw [blk_cell hb1]; exact H1.out); have f1 : w1.frozen? ⟨Z, oz + 1, none⟩ = false := blk_frozen hb1 _; have HFI := hid hfin; have HB1 := hid hb1; clear hfin hb1 r1 r2 r3))
  all_goals
    have s1 := blk_set HB1.out (oz + 1) (.slice A n c)
    have k0 : (w1.setCell ⟨Z, oz + 1, none⟩ (.slice A n c)).cell? ⟨Z, oz, none⟩ = some (.bool nz) := by rw [blk_cell s1, Array.getElem?_setIfInBounds, if_neg (by omega)]; exact H0.out
    have f0 : (w1.setCell ⟨Z, oz + 1, none⟩ (.slice A n c)).frozen? ⟨Z, oz, none⟩ = false := blk_frozen s1 _
    clear s1
    go_wp2_with fail
    go_ret
    exact ⟨rfl, HFI.out⟩

/-- A row of the table of digits. -/
def tabRow (d : Nat) (v1 v2 : Value) (n : Bool) : Array Value := #[.int .i64 (d : Int), .bool false, v1, .bool false, .bool n, v2, .bool false]

set_option maxRecDepth 100000 in
set_option maxHeartbeats 2000000 in
theorem intNeg (E d M : Nat) (v1 : Value) (w : World) (hE : BlkAt w E (tabRow d v1 (.slice none 0 0) false) 219) (hv : NatAt w v1 (limbs M)) (hM : M ≠ 0) (hl : (limbs M).length ≤ 900) (hvE : ∀ g, natBlk v1 = some g → g ≠ E) :
    Calls Tryz.prog 231 #[.pointer (some ⟨E, 4, none⟩), .pointer (some ⟨E, 1, none⟩)] w fun e w' => e = .returned (.pointer (some ⟨E, 4, none⟩)) ∧ ∃ v2, BlkAt w' E (tabRow d v1 v2 true) 219 ∧ Fr (fun i => i = E) w w' := by
  have HS := hid (intSet E 4 E 1 _ _ 219 219 false false (.slice none 0 0) v1 [] (limbs M) w hE rfl rfl hE rfl rfl (NatAt.nil _) hv hl (fun _ => .inl (by omega)) (fun g h => by cases h))
  have hl1 := limbs_len_pos hM
  have hd : decide (0 < (limbs M).length) = true := decide_eq_true (by omega)
  clear hE hv hvE
  go_enter Tryz.func231, Tryz.ntmps231
  go_wp2_with fail
  refine HS.out.mono ?_
  rintro e w1 ⟨rfl, v2, r1, r2, r3, r4⟩
  have hF : Fr (fun i => i = E) w w1 := r4.mono (fun i hi h => h.elim (fun h => h) (fun h => by cases h))
  obtain ⟨A, c, rfl⟩ := r2.shape
  have r1' : BlkAt w1 E (tabRow d v1 (.slice A (limbs M).length c) false) 219 := r1
  have k5 : w1.cell? ⟨E, 5, none⟩ = some (.slice A (limbs M).length c) := by rw [blk_cell r1']; rfl
  have k4 : w1.cell? ⟨E, 4, none⟩ = some (.bool false) := by rw [blk_cell r1']; rfl
  have f4 : w1.frozen? ⟨E, 4, none⟩ = false := blk_frozen r1' _
  have s4 : BlkAt (w1.setCell ⟨E, 4, none⟩ (.bool true)) E (tabRow d v1 (.slice A (limbs M).length c) true) 219 := blk_set r1' 4 (.bool true)
  have N := hid (show ∃ v2, BlkAt (w1.setCell ⟨E, 4, none⟩ (.bool true)) E (tabRow d v1 v2 true) 219 ∧ Fr (fun i => i = E) w (w1.setCell ⟨E, 4, none⟩ (.bool true)) from ⟨_, s4, Fr.setCell (S := fun i => i = E) (p := ⟨E, 4, none⟩) hF (fun _ => rfl) _⟩)
  clear s4 r1 r1' r2 r3 r4 hF
  generalize (limbs M).length = n at *
  go_wp2_with fail
  go_ret
  exact ⟨rfl, N.out⟩

set_option maxRecDepth 100000 in
set_option maxHeartbeats 2000000 in
theorem bigNeg (E d M : Nat) (v1 : Value) (w : World) (hE : BlkAt w E (tabRow d v1 (.slice none 0 0) false) 219) (hv : NatAt w v1 (limbs M)) (hM : M ≠ 0) (hl : (limbs M).length ≤ 900) (hvE : ∀ g, natBlk v1 = some g → g ≠ E) :
    Calls Tryz.prog 197 #[.pointer (some ⟨E, 4, none⟩), .pointer (some ⟨E, 1, none⟩)] w fun e w' => e = .returned (.pointer (some ⟨E, 4, none⟩)) ∧ ∃ v2, BlkAt w' E (tabRow d v1 v2 true) 219 ∧ Fr (fun i => i = E) w w' := by
  have s6 : BlkAt (w.setCell ⟨E, 6, none⟩ (.bool false)) E (tabRow d v1 (.slice none 0 0) false) 219 := blk_set hE 6 (.bool false)
  have hF : Fr (fun i => i = E) w (w.setCell ⟨E, 6, none⟩ (.bool false)).drew := (Fr.setCell (S := fun i => i = E) (p := ⟨E, 6, none⟩) (Fr.refl _ _) (fun _ => rfl) _).drew
  have HN := hid (intNeg E d M v1 (w.setCell ⟨E, 6, none⟩ (.bool false)).drew s6 (hv.fr hF (fun g hg h => hvE g hg h)) hM hl hvE)
  have hl1 := limbs_len_pos hM
  have k6 : w.cell? ⟨E, 6, none⟩ = some (.bool false) := by rw [blk_cell hE]; rfl
  have f6 : w.frozen? ⟨E, 6, none⟩ = false := blk_frozen hE _
  have k1 : w.cell? ⟨E, 1, none⟩ = some (.bool false) := by rw [blk_cell hE]; rfl
  have k2 : w.cell? ⟨E, 2, none⟩ = some v1 := by rw [blk_cell hE]; rfl
  have k3 : w.cell? ⟨E, 3, none⟩ = some (.bool false) := by rw [blk_cell hE]; rfl
  obtain ⟨A, c, hs⟩ := hv.shape
  have q0 : (((limbs M).length : Int) == 0) = false := beq_eq_false_iff_ne.2 (by omega)
  have HF := hid hF
  clear hE hv hvE s6 hF
  subst hs
  generalize (limbs M).length = n at *
  go_enter Tryz.func197, Tryz.ntmps197
  go_wp2_with (first | (go_at_call 150; go_in))
  go_region_with (first | (go_at_call 231; refine HN.out.mono ?_; rintro e w1 ⟨rfl, r⟩; have R := hid r; clear r))
  obtain ⟨v2, r1, r2⟩ := R.out
  have N := hid (show ∃ v2, BlkAt w1 E (tabRow d (.slice A n c) v2 true) 219 ∧ Fr (fun i => i = E) w w1 from ⟨v2, r1, HF.out.trans r2 (fun _ _ h => h)⟩)
  clear r1 r2 R
  go_wp2_with fail
  go_ret
  exact ⟨rfl, N.out⟩
end Go.Proofs.YteokhhepnoelhaaGreatDoor
