/-
  impl.words: the words of a BigInt as a slice of its own.
-/
import Derived.Test.YteokhhepnoelhaaGreatDoorBigA
import Derived.Deep.RegionHeld3
import Derived.OwnWalk

set_option linter.unusedVariables false
set_option linter.unusedSimpArgs false
namespace Go.Proofs.YteokhhepnoelhaaGreatDoor
open Go.RowKit

theorem intExpDoor (Z oz X ox Y oy : Nat) (cs : Array Value) (t : TypeId) (n0 : Bool) (vx vy : Value) (self : Bool) (k : Nat) (w : World) (hZ : BlkAt w Z cs t) (h0 : cs[oz]? = some (.bool n0)) (h1 : cs[oz + 1]? = some (if self then vx else .slice none 0 0))
    (x0 : w.cell? ⟨X, ox, none⟩ = some (.bool false)) (x1 : w.cell? ⟨X, ox + 1, none⟩ = some vx) (y0 : w.cell? ⟨Y, oy, none⟩ = some (.bool false)) (y1 : w.cell? ⟨Y, oy + 1, none⟩ = some vy)
    (hx : NatAt w vx [10]) (hy : NatAt w vy [k]) (hT : Thr w) (hk : 1 ≤ k) (hk' : k ≤ 100) (hXZ : (X = Z ∧ ox = oz) ∨ X ≠ Z) :
    Calls Tryz.prog 207 #[.pointer (some ⟨Z, oz, none⟩), .pointer (some ⟨X, ox, none⟩), .pointer (some ⟨Y, oy, none⟩), .pointer none] w
      fun e w' => e = .returned (.pointer (some ⟨Z, oz, none⟩)) ∧ IntRes w Z oz cs t (10 ^ k) w' := by
  have H := hid (intExp Z oz X ox Y oy cs t n0 vx vy self k w hZ h0 h1 x0 x1 y0 y1 hx hy hT hk hk' hXZ)
  clear hZ h0 h1 x0 x1 y0 y1 hx hy hT hXZ
  go_enter Tryz.func207, Tryz.ntmps207
  go_wp2_with fail
  refine H.out.mono ?_
  rintro e w1 ⟨rfl, r⟩
  have N := hid r
  clear r
  go_wp2_with fail
  go_ret
  exact ⟨rfl, N.out⟩

set_option maxRecDepth 100000 in
set_option maxHeartbeats 2000000 in
theorem bigExp (Z oz X ox Y oy : Nat) (cs : Array Value) (t : TypeId) (n0 m0 : Bool) (vx vy : Value) (self : Bool) (k : Nat) (w : World) (hZ : BlkAt w Z cs t) (h0 : cs[oz]? = some (.bool n0)) (h1 : cs[oz + 1]? = some (if self then vx else .slice none 0 0)) (h2 : cs[oz + 2]? = some (.bool m0))
    (x0 : w.cell? ⟨X, ox, none⟩ = some (.bool false)) (x1 : w.cell? ⟨X, ox + 1, none⟩ = some vx) (y0 : w.cell? ⟨Y, oy, none⟩ = some (.bool false)) (y1 : w.cell? ⟨Y, oy + 1, none⟩ = some vy)
    (hx : NatAt w vx [10]) (hy : NatAt w vy [k]) (hT : Thr w) (hk : 1 ≤ k) (hk' : k ≤ 100) (hXZ : (X = Z ∧ ox = oz) ∨ X ≠ Z) (hYZ : Y ≠ Z) (hxZ : ∀ g, natBlk vx = some g → g ≠ Z) (hyZ : ∀ g, natBlk vy = some g → g ≠ Z) (hZ19 : 19 ≤ Z) :
    Calls Tryz.prog 178 #[.pointer (some ⟨Z, oz, none⟩), .pointer (some ⟨X, ox, none⟩), .pointer (some ⟨Y, oy, none⟩)] w
      fun e w' => e = .returned (.pointer (some ⟨Z, oz, none⟩)) ∧ IntRes w Z oz (cs.setIfInBounds (oz + 2) (.bool false)) t (10 ^ k) w' := by
  have z2 : w.cell? ⟨Z, oz + 2, none⟩ = some (.bool m0) := by rw [blk_cell hZ]; exact h2
  have f2 : w.frozen? ⟨Z, oz + 2, none⟩ = false := blk_frozen hZ _
  have s2 := blk_set hZ (oz + 2) (.bool false)
  have hF : Fr (fun i => i = Z) w (w.setCell ⟨Z, oz + 2, none⟩ (.bool false)) := Fr.setCell (S := fun i => i = Z) (p := ⟨Z, oz + 2, none⟩) (Fr.refl _ _) (fun _ => rfl) _
  have keep : ∀ (i : Nat) (u : Value), w.cell? ⟨X, ox + i, none⟩ = some u → i ≤ 1 → (w.setCell ⟨Z, oz + 2, none⟩ (.bool false)).cell? ⟨X, ox + i, none⟩ = some u := fun i u hu hi => by
    rcases hXZ with ⟨rfl, rfl⟩ | h
    · rw [blk_cell s2, Array.getElem?_setIfInBounds, if_neg (by omega), ← blk_cell hZ]; exact hu
    · exact hF.cell' hu h
  have hE := intExpDoor Z oz X ox Y oy (cs.setIfInBounds (oz + 2) (.bool false)) t n0 vx vy self k (w.setCell ⟨Z, oz + 2, none⟩ (.bool false)).drew s2
    (by rw [Array.getElem?_setIfInBounds, if_neg (by omega)]; exact h0) (by rw [Array.getElem?_setIfInBounds, if_neg (by omega)]; exact h1)
    (keep 0 _ x0 (by omega)) (keep 1 _ x1 (by omega)) (hF.cell' y0 hYZ) (hF.cell' y1 hYZ) ((hx.fr hF (fun g hg h => hxZ g hg h) : NatAt (w.setCell ⟨Z, oz + 2, none⟩ (.bool false)) vx [10])) ((hy.fr hF (fun g hg h => hyZ g hg h) : NatAt (w.setCell ⟨Z, oz + 2, none⟩ (.bool false)) vy [k])) (hT.fr hF.drew (fun i hi h => by have h : i = Z := h; omega)) hk hk' hXZ
  have HE := hid hE; have HF := hid hF
  have HSZ : Hid ((w.setCell ⟨Z, oz + 2, none⟩ (.bool false)).heap.size = w.heap.size) := hid (by simp)
  clear hE hF keep s2 hZ h0 h1 h2 x0 x1 y0 y1 hx hy hT hXZ hYZ hxZ hyZ
  go_enter Tryz.func178, Tryz.ntmps178
  go_wp2_with fail
  go_region_with (first | (go_at_call 207; refine HE.out.mono ?_; rintro e w1 ⟨rfl, r⟩; have R := hid r; clear r))
  obtain ⟨v', r1, r2, r3, r4⟩ := R.out
  have N := hid (show IntRes w Z oz (cs.setIfInBounds (oz + 2) (.bool false)) t (10 ^ k) w1 from ⟨v', r1, r2, fun g hg => by have := r3 g hg; exact Nat.le_trans (Nat.le_of_eq HSZ.out.symm) this, HF.out.drew.trans r4 (fun _ _ h => h)⟩)
  clear r1 r2 r3 r4 R
  go_wp2_with fail
  go_ret
  exact ⟨rfl, N.out⟩
end Go.Proofs.YteokhhepnoelhaaGreatDoor

set_option linter.unusedVariables false
set_option linter.unusedSimpArgs false
namespace Go.Proofs.YteokhhepnoelhaaGreatDoor
open Go.RowKit

theorem limbs_small {k : Nat} (h0 : k ≠ 0) (h : k < WB) : limbs k = [k] := by
  rw [limbs_pos h0, Nat.mod_eq_of_lt h, Nat.div_eq_of_lt h, limbs_zero]

set_option maxRecDepth 100000 in
set_option maxHeartbeats 2000000 in
theorem setBigWithPow (Z oz : Nat) (cs : Array Value) (t : TypeId) (n0 m0 : Bool) (k : Nat) (w : World) (hZ : BlkAt w Z cs t) (h0 : cs[oz]? = some (.bool n0)) (h1 : cs[oz + 1]? = some (.slice none 0 0)) (h2 : cs[oz + 2]? = some (.bool m0)) (hT : Thr w) (hk : 1 ≤ k) (hk' : k ≤ 100) (hZ19 : 19 ≤ Z) :
    Calls Tryz.prog 148 #[.pointer (some ⟨Z, oz, none⟩), .int .i64 (k : Int)] w fun e w' => e = .returned (.tuple #[]) ∧ IntRes w Z oz (cs.setIfInBounds (oz + 2) (.bool false)) t (10 ^ k) w' := by
  have hb := blk_new w (.cells #[.bool false, .slice none 0 0, .bool false] 70 (0, 0))
  have hFa : Fr NoB w (w.alloc (.cells #[.bool false, .slice none 0 0, .bool false] 70)) := (Fr.refl _ _).alloc _
  have HI := hid (bigSetInt64 w.heap.size 0 #[.bool false, .slice none 0 0, .bool false] 70 false false k (w.alloc (.cells #[.bool false, .slice none 0 0, .bool false] 70)) hb rfl rfl rfl (by omega))
  have hsz : (w.alloc (.cells #[.bool false, .slice none 0 0, .bool false] 70)).heap.size = w.heap.size + 1 := by simp
  have HZ := hid hZ; have H0 := hid h0; have H1 := hid h1; have H2 := hid h2; have HT := hid hT; have HFA := hid hFa; have HSZ := hid hsz
  have hZl := blk_lt hZ
  clear hb hFa hsz hZ h0 h1 h2 hT
  go_enter Tryz.func148, Tryz.ntmps148
  go_wp2_with fail
  refine HI.out.mono ?_
  rintro e w1 ⟨rfl, vy, r1, r2, r3, r4⟩
  have hF1 : Fr NoB w w1 := HFA.out.trans r4 (fun i hi h => by have h : i = w.heap.size := h; omega)
  have R1 := hid r1; have R2 := hid r2; have R3 := hid r3; have HF1 := hid hF1
  clear r1 r2 r3 r4 hF1
  go_wp2_with fail
  refine (bigTen_any w1).mono ?_
  rintro e w2 ⟨rfl, vx, q1, q2, q3, q4⟩
  have hF2 : Fr NoB w w2 := HF1.out.trans q4 (fun _ _ h => h)
  have hzl : w.heap.size < w1.heap.size := blk_lt R1.out
  have y0 : w2.cell? ⟨w.heap.size, 0, none⟩ = some (.bool false) := by rw [blk_cell (q4.blk R1.out (fun h => h))]; rfl
  have y1 : w2.cell? ⟨w.heap.size, 0 + 1, none⟩ = some vy := by rw [blk_cell (q4.blk R1.out (fun h => h))]; rfl
  have hvy : NatAt w1 vy [k] := by
    have h := R2.out
    rw [limbs_small (k := k) (by omega) (by rw [WB_eq]; omega)] at h
    exact h
  have HE := hid (bigExp Z oz w1.heap.size 0 w.heap.size 0 cs t n0 m0 vx vy false k w2 (hF2.blk HZ.out (fun h => h)) H0.out H1.out H2.out
    (by rw [blk_cell q1]; rfl) (by rw [blk_cell q1]; rfl) y0 y1 (by rw [limbs_small (by omega) (by rw [WB_eq]; omega)] at q2; exact q2) (hvy.fr q4 (fun _ _ h => h)) (HT.out.fr hF2 (fun _ _ h => h)) hk hk' (.inr (by omega)) (by omega) (fun g hg => by have := q3 g hg; omega) (fun g hg => by have := R3.out g hg; rw [HSZ.out] at this; omega) hZ19)
  have HF2 := hid hF2
  clear hF2 q1 q2 q3 q4 y0 y1 hvy
  go_wp2_with fail
  refine HE.out.mono ?_
  rintro e w3 ⟨rfl, v', s1, s2, s3, s4⟩
  have N := hid (show IntRes w Z oz (cs.setIfInBounds (oz + 2) (.bool false)) t (10 ^ k) w3 from ⟨v', s1, s2, fun g hg => Nat.le_trans HF2.out.size (s3 g hg), Fr.trans (S := fun i => i = Z) (HF2.out.mono (fun _ _ h => h.elim)) s4 (fun _ _ h => h)⟩)
  clear s1 s2 s3 s4
  go_wp2_with fail
  go_end0
  exact ⟨rfl, N.out⟩

theorem tableExp10 (Z oz : Nat) (cs : Array Value) (t : TypeId) (n0 m0 : Bool) (k : Nat) (w : World) (hZ : BlkAt w Z cs t) (h0 : cs[oz]? = some (.bool n0)) (h1 : cs[oz + 1]? = some (.slice none 0 0)) (h2 : cs[oz + 2]? = some (.bool m0)) (hT : Thr w) (hk : 1 ≤ k) (hk' : k ≤ 100) (hZ19 : 19 ≤ Z) :
    Calls Tryz.prog 101 #[.int .i64 (k : Int), .pointer (some ⟨Z, oz, none⟩)] w fun e w' => e = .returned (.pointer (some ⟨Z, oz, none⟩)) ∧ IntRes w Z oz (cs.setIfInBounds (oz + 2) (.bool false)) t (10 ^ k) w' := by
  have H := hid (setBigWithPow Z oz cs t n0 m0 k w hZ h0 h1 h2 hT hk hk' hZ19)
  clear hZ h0 h1 h2 hT
  go_enter Tryz.func101, Tryz.ntmps101
  go_wp2_with fail
  refine H.out.mono ?_
  rintro e w1 ⟨rfl, r⟩
  have N := hid r
  clear r
  go_wp2_with fail
  go_ret
  exact ⟨rfl, N.out⟩

/-! ### Lsh of 1 -/
def LshRes (w : World) (C : Nat) (s : Nat) (w' : World) : Prop :=
  ∃ v', BlkAt w' C #[.bool false, v', .bool false] 70 ∧ NatAt w' v' (limbs (2 ^ s)) ∧ (∀ g, natBlk v' = some g → C < g) ∧ Fr (fun i => C ≤ i) w w'

set_option maxRecDepth 100000 in
set_option maxHeartbeats 2000000 in
theorem intLsh_one (C : Nat) (v : Value) (s : Nat) (w : World) (hC : BlkAt w C #[.bool false, v, .bool false] 70) (hv : NatAt w v [1]) (hg : ∀ g, natBlk v = some g → C < g) (hs : s ≤ 200) :
    Calls Tryz.prog 229 #[.pointer (some ⟨C, 0, none⟩), .pointer (some ⟨C, 0, none⟩), .int .u64 (s : Int)] w fun e w' => e = .returned (.pointer (some ⟨C, 0, none⟩)) ∧ LshRes w C s w' := by
  obtain ⟨g, cap, rfl, _, _, hgl, _, _⟩ := hv.cell (by simp)
  have hFd : Fr NoB w w.drew := (Fr.refl _ _).drew
  have HL := hid (natLsh_one g cap s w.drew (hv.fr hFd (fun _ _ h => h)) hs)
  rw [show ([1] : List Nat).length = 1 from rfl] at *
  have hCg := hg g rfl
  have hCd : BlkAt w.drew C #[.bool false, .slice (some ⟨g, 0, none⟩) 1 cap, .bool false] 70 := hC
  have c1 : w.cell? ⟨C, 1, none⟩ = some (.slice (some ⟨g, 0, none⟩) 1 cap) := by rw [blk_cell hC]; rfl
  have HC := hid hCd
  have fin : ∀ (w1 : World) (v' : Value), NatRes w.drew (.slice (some ⟨g, 0, none⟩) 1 cap) (2 ^ s) (.returned v') w1 → ∃ A n c, v' = .slice A n c ∧ BlkAt w1 C #[.bool false, .slice (some ⟨g, 0, none⟩) 1 cap, .bool false] 70 ∧
      LshRes w C s ((w1.setCell ⟨C, 1, none⟩ v').setCell ⟨C, 0, none⟩ (.bool false)) := by
    rintro w1 v' ⟨v, hv, r1, r2, r3⟩
    cases hv
    obtain ⟨A, c, hs⟩ := r1.shape
    have hb1 : BlkAt w1 C #[.bool false, .slice (some ⟨g, 0, none⟩) 1 cap, .bool false] 70 := r2.blk HC.out (fun h => by
      have h : some g = some C := h
      cases h; omega)
    have s1 := blk_set hb1 1 v'
    have s0 := blk_set s1 0 (.bool false)
    refine ⟨_, _, _, hs, hb1, v', s0, ?_, fun i hi => ?_, ?_⟩
    · have hF2 : Fr (fun i => i = C) w1 ((w1.setCell ⟨C, 1, none⟩ v').setCell ⟨C, 0, none⟩ (.bool false)) :=
        Fr.setCell (S := fun i => i = C) (p := ⟨C, 0, none⟩) (Fr.setCell (S := fun i => i = C) (p := ⟨C, 1, none⟩) (Fr.refl _ _) (fun _ => rfl) _) (fun _ => rfl) _
      refine r1.fr hF2 (fun i hi h => ?_)
      have h : i = C := h
      rcases r3 i hi with h2 | h2
      · have h2 : some g = some i := h2
        cases h2; omega
      · have := blk_lt HC.out; omega
    · rcases r3 i hi with h2 | h2
      · have h2 : some g = some i := h2
        cases h2; omega
      · have := blk_lt HC.out; omega
    · refine Fr.setCell (S := fun i => C ≤ i) (p := ⟨C, 0, none⟩) (Fr.setCell (S := fun i => C ≤ i) (p := ⟨C, 1, none⟩) (hFd.mono (fun _ _ h => h.elim) |>.trans r2 (fun i hi h => ?_)) (fun _ => Nat.le_refl _) _) (fun _ => Nat.le_refl _) _
      have h : some g = some i := h
      cases h; omega
  have FIN := hid fin
  clear hC hCd hv hg fin hFd
  go_enter Tryz.func229, Tryz.ntmps229
  go_wp2_with fail
  go_region_with (first | (go_at_call 262; refine HL.out.mono ?_; rintro e w1 ⟨v', rfl, r1, r2, r3⟩; obtain ⟨A, n, c, rfl, hb1, hfin⟩ := FIN.out w1 v' ⟨v', rfl, r1, r2, r3⟩; have k1 : w1.cell? ⟨C, 1, none⟩ = some (.slice (some ⟨g, 0, none⟩) 1 cap) := (by rw [blk_cell hb1]; rfl); have f1 : w1.frozen? ⟨C, 1, none⟩ = false := blk_frozen hb1 _; have HFI := hid hfin; have HB1 := hid hb1; clear hfin hb1 r1 r2 r3))
  all_goals
    have s1 := blk_set HB1.out 1 (.slice A n c)
    have k0 : (w1.setCell ⟨C, 1, none⟩ (.slice A n c)).cell? ⟨C, 0, none⟩ = some (.bool false) := by rw [blk_cell s1]; rfl
    have f0 : (w1.setCell ⟨C, 1, none⟩ (.slice A n c)).frozen? ⟨C, 0, none⟩ = false := blk_frozen s1 _
    clear s1
    go_wp2_with fail
    go_ret
    exact ⟨rfl, HFI.out⟩

set_option maxRecDepth 100000 in
set_option maxHeartbeats 2000000 in
theorem bigLsh_one (C : Nat) (v : Value) (m0 : Bool) (s : Nat) (w : World) (hC : BlkAt w C #[.bool false, v, .bool m0] 70) (hv : NatAt w v [1]) (hg : ∀ g, natBlk v = some g → C < g) (hs : s ≤ 200) :
    Calls Tryz.prog 195 #[.pointer (some ⟨C, 0, none⟩), .pointer (some ⟨C, 0, none⟩), .int .u64 (s : Int)] w fun e w' => e = .returned (.pointer (some ⟨C, 0, none⟩)) ∧ LshRes w C s w' := by
  have c2 : w.cell? ⟨C, 2, none⟩ = some (.bool m0) := by rw [blk_cell hC]; rfl
  have f2 : w.frozen? ⟨C, 2, none⟩ = false := blk_frozen hC _
  have s2 := blk_set hC 2 (.bool false)
  have hF : Fr (fun i => i = C) w (w.setCell ⟨C, 2, none⟩ (.bool false)).drew := (Fr.setCell (S := fun i => i = C) (p := ⟨C, 2, none⟩) (Fr.refl _ _) (fun _ => rfl) _).drew
  have HL := hid (intLsh_one C v s (w.setCell ⟨C, 2, none⟩ (.bool false)).drew s2 (hv.fr hF (fun g hg' h => by
    have h : g = C := h
    have := hg g hg'
    omega)) hg hs)
  have HF := hid hF
  clear hC hv hg s2 hF
  go_enter Tryz.func195, Tryz.ntmps195
  go_wp2_with fail
  go_region_with (first | (go_at_call 229; refine HL.out.mono ?_; rintro e w1 ⟨rfl, r⟩; have R := hid r; clear r))
  obtain ⟨v', r1, r2, r3, r4⟩ := R.out
  have N := hid (show LshRes w C s w1 from ⟨v', r1, r2, r3, Fr.trans (S := fun i => C ≤ i) (HF.out.mono (fun i hi h => by have h : i = C := h; omega)) r4 (fun _ _ h => h)⟩)
  clear r1 r2 r3 r4 R
  go_wp2_with fail
  go_ret
  exact ⟨rfl, N.out⟩

/-! ### String -/
def StrRes (w : World) (N : Nat) (e : Ending) (w' : World) : Prop := e = .returned (.string ⟨(Lib.decDigits N).toArray⟩) ∧ Fr NoB w w'

theorem BytesAt.str {w : World} {B : Nat} {v : Value} {l : List UInt8} (h : BytesAt w B v l) : (convert 100 9 v).run Tryz.prog w = .ok (.string ⟨l.toArray⟩) w := by
  obtain ⟨g, o, cap, cs, fr, rfl, h2, h3, h4, h5, h6, h7⟩ := h
  refine run_convert_bytes_back w 100 9 5 ⟨g, o, none⟩ cap l Tryz.underlying100 Tryz.underlying5 Tryz.underlying9 (fun j hj => ?_)
  rw [add_plain]
  have := h7 j l[j] (List.getElem?_eq_getElem hj)
  simp only [World.cell?, h3]
  exact this

set_option maxRecDepth 100000 in
set_option maxHeartbeats 2000000 in
theorem intText (C o : Nat) (v : Value) (N : Nat) (w : World) (h0 : w.cell? ⟨C, o, none⟩ = some (.bool false)) (h1 : w.cell? ⟨C, o + 1, none⟩ = some v) (hv : NatAt w v (limbs N)) (hb : blen N < 300) (hT : Thr w) :
    Calls Tryz.prog 263 #[.pointer (some ⟨C, o, none⟩), .int .i64 10] w (StrRes w N) := by
  have hFd : Fr NoB w w.drew := (Fr.refl _ _).drew
  have HI := hid (natItoa v N hb w.drew (hv.fr hFd (fun _ _ h => h)) (hT.fr hFd (fun _ _ h => h)).leaf)
  obtain ⟨A, c, rfl⟩ := hv.shape
  have hFD := hid hFd
  clear hv hT hFd
  generalize (limbs N).length = n at *
  go_enter Tryz.func263, Tryz.ntmps263
  go_wp2_with fail
  go_region_with (first | (go_at_call 154; refine HI.out.mono ?_; rintro e w1 ⟨v', rfl, hby, hF⟩; have hcv := hby.str; have N1 := hid (show Fr NoB w w1 from hFD.out.trans hF (fun _ _ h => h)); obtain ⟨g, o', cap, cs, fr, rfl, hby⟩ := hby; clear hby hF))
  all_goals
    go_wp2_with fail
    go_ret
    exact ⟨rfl, N1.out⟩

theorem bigString (C o : Nat) (v : Value) (N : Nat) (w : World) (h0 : w.cell? ⟨C, o, none⟩ = some (.bool false)) (h1 : w.cell? ⟨C, o + 1, none⟩ = some v) (hv : NatAt w v (limbs N)) (hb : blen N < 300) (hT : Thr w) :
    Calls Tryz.prog 196 #[.pointer (some ⟨C, o, none⟩)] w (StrRes w N) := by
  have H := hid (intText C o v N w h0 h1 hv hb hT)
  clear h0 h1 hv hb hT
  go_enter Tryz.func196, Tryz.ntmps196
  go_wp2_with (first | (go_at_call 230; go_in))
  refine H.out.mono ?_
  rintro e w1 ⟨rfl, r⟩
  have N := hid r
  clear r
  go_wp2_with fail
  go_ret
  exact ⟨rfl, N.out⟩
end Go.Proofs.YteokhhepnoelhaaGreatDoor

set_option linter.unusedVariables false
set_option linter.unusedSimpArgs false
namespace Go.Proofs.YteokhhepnoelhaaGreatDoor
open Go.RowKit

/-- What Int.Set leaves: the other's words in a row of z's own or a new one, the other's sign. -/
def SetRes (w : World) (Z oz : Nat) (cs : Array Value) (t : TypeId) (vz : Value) (nx : Bool) (xs : List Nat) (w' : World) : Prop :=
  ∃ v', BlkAt w' Z ((cs.setIfInBounds (oz + 1) v').setIfInBounds oz (.bool nx)) t ∧ NatAt w' v' xs ∧ (∀ g, natBlk v' = some g → natBlk vz = some g ∨ w.heap.size ≤ g) ∧ Fr (fun i => i = Z ∨ natBlk vz = some i) w w'

set_option maxRecDepth 100000 in
set_option maxHeartbeats 2000000 in
theorem intSet (Z oz X ox : Nat) (cs csx : Array Value) (t tx : TypeId) (nz nx : Bool) (vz vx : Value) (zs xs : List Nat) (w : World) (hZ : BlkAt w Z cs t) (h0 : cs[oz]? = some (.bool nz)) (h1 : cs[oz + 1]? = some vz)
    (hX : BlkAt w X csx tx) (x0 : csx[ox]? = some (.bool nx)) (x1 : csx[ox + 1]? = some vx) (hvz : NatAt w vz zs) (hvx : NatAt w vx xs) (hl : xs.length ≤ 900) (hd : Z = X → ox + 1 < oz ∨ oz + 1 < ox) (hzZ : ∀ g, natBlk vz = some g → g ≠ Z ∧ g ≠ X) :
    Calls Tryz.prog 68 #[.pointer (some ⟨Z, oz, none⟩), .pointer (some ⟨X, ox, none⟩)] w fun e w' => e = .returned (.pointer (some ⟨Z, oz, none⟩)) ∧ SetRes w Z oz cs t vz nx xs w' := by
  have hq := neq102_other (a := ⟨Z, oz, none⟩) (b := ⟨X, ox, none⟩) w (fun e => by
    have e1 : Z = X := congrArg Addr.block e
    have e2 : oz = ox := congrArg Addr.off e
    rcases hd e1 with h | h <;> omega) hZ hX
  have c1 : w.cell? ⟨Z, oz + 1, none⟩ = some vz := by rw [blk_cell hZ]; exact h1
  have cx1 : w.cell? ⟨X, ox + 1, none⟩ = some vx := by rw [blk_cell hX]; exact x1
  have hFd : Fr NoB w w.drew := (Fr.refl _ _).drew
  have HS := hid (natSet vz vx zs xs w.drew (hvz.fr hFd (fun _ _ h => h)) (hvx.fr hFd (fun _ _ h => h)) hl)
  obtain ⟨Az, cz, hz⟩ := hvz.shape
  obtain ⟨Ax, cx, hx⟩ := hvx.shape
  have fin : ∀ (w1 : World) (v' : Value), RowRes w.drew vz xs (.returned v') w1 → ∃ A n c, v' = .slice A n c ∧ BlkAt w1 Z cs t ∧
      (w1.setCell ⟨Z, oz + 1, none⟩ v').cell? ⟨X, ox, none⟩ = some (.bool nx) ∧ SetRes w Z oz cs t vz nx xs ((w1.setCell ⟨Z, oz + 1, none⟩ v').setCell ⟨Z, oz, none⟩ (.bool nx)) := by
    rintro w1 v' ⟨v, hv, r1, r2, r3⟩
    cases hv
    obtain ⟨A, c, hs⟩ := r1.shape
    have hb1 : BlkAt w1 Z cs t := r2.blk hZ (fun h => (hzZ Z h).1 rfl)
    have hbx : BlkAt w1 X csx tx := r2.blk hX (fun h => (hzZ X h).2 rfl)
    have s1 := blk_set hb1 (oz + 1) v'
    have s0 := blk_set s1 oz (.bool nx)
    have hF2 : ∀ a, Fr (fun i => i = Z ∨ natBlk vz = some i) a w1 → Fr (fun i => i = Z ∨ natBlk vz = some i) a ((w1.setCell ⟨Z, oz + 1, none⟩ v').setCell ⟨Z, oz, none⟩ (.bool nx)) := fun a ha =>
      Fr.setCell (S := fun i => i = Z ∨ natBlk vz = some i) (p := ⟨Z, oz, none⟩) (Fr.setCell (S := fun i => i = Z ∨ natBlk vz = some i) (p := ⟨Z, oz + 1, none⟩) ha (fun _ => .inl rfl) _) (fun _ => .inl rfl) _
    refine ⟨_, _, _, hs, hb1, ?_, v', s0, ?_, r3, hF2 w (Fr.trans (S := fun i => i = Z ∨ natBlk vz = some i) (hFd.mono (fun _ _ h => h.elim)) r2 (fun _ _ h => .inr h))⟩
    · by_cases e : X = Z
      · subst e
        have : cs = csx ∧ t = tx := by
          have := hZ.symm.trans hX
          simp at this
          exact this
        rw [blk_cell s1, Array.getElem?_setIfInBounds, if_neg (by rcases hd rfl with h | h <;> omega), this.1]
        exact x0
      · have hF3 : Fr (fun i => i = Z) w1 (w1.setCell ⟨Z, oz + 1, none⟩ v') := Fr.setCell (S := fun i => i = Z) (p := ⟨Z, oz + 1, none⟩) (Fr.refl _ _) (fun _ => rfl) _
        exact hF3.cell' (by rw [blk_cell hbx]; exact x0) e
    · have hF4 : Fr (fun i => i = Z) w1 ((w1.setCell ⟨Z, oz + 1, none⟩ v').setCell ⟨Z, oz, none⟩ (.bool nx)) :=
        Fr.setCell (S := fun i => i = Z) (p := ⟨Z, oz, none⟩) (Fr.setCell (S := fun i => i = Z) (p := ⟨Z, oz + 1, none⟩) (Fr.refl _ _) (fun _ => rfl) _) (fun _ => rfl) _
      refine r1.fr hF4 (fun g hg h => ?_)
      have h : g = Z := h
      rcases r3 g hg with h2 | h2
      · exact (hzZ g h2).1 h
      · have h3 := blk_lt hZ
        have h4 : w.drew.heap.size = w.heap.size := rfl
        omega
  have FIN := hid fin
  have H1 := hid h1; have H0 := hid h0
  clear hvz hvx hX x0 x1 hd hzZ hFd fin h0 h1 hZ
  subst hz; subst hx
  generalize zs.length = n1 at *
  generalize xs.length = n2 at *
  go_enter Tryz.func68, Tryz.ntmps68
  go_wp2_with fail
  go_region_with (first | (go_at_call 110; refine HS.out.mono ?_; rintro e w1 ⟨v', rfl, r1, r2, r3⟩; obtain ⟨A, n, c, rfl, hb1, hcx, hfin⟩ := FIN.out w1 v' ⟨v', rfl, r1, r2, r3⟩; have k1 : w1.cell? ⟨Z, oz + 1, none⟩ = some (.slice Az n1 cz) := (by rw [blk_cell hb1]; exact H1.out); have f1 : w1.frozen? ⟨Z, oz + 1, none⟩ = false := blk_frozen hb1 _; have HFI := hid hfin; have HB1 := hid hb1; clear hfin hb1 r1 r2 r3))
  all_goals
    have s1 := blk_set HB1.out (oz + 1) (.slice A n c)
    have k0 : (w1.setCell ⟨Z, oz + 1, none⟩ (.slice A n c)).cell? ⟨Z, oz, none⟩ = some (.bool nz) := by rw [blk_cell s1, Array.getElem?_setIfInBounds, if_neg (by omega)]; exact H0.out
    have f0 : (w1.setCell ⟨Z, oz + 1, none⟩ (.slice A n c)).frozen? ⟨Z, oz, none⟩ = false := blk_frozen s1 _
    clear s1
    go_wp2_with fail
    go_ret
    exact ⟨rfl, HFI.out⟩

/-- A row of the table of digits. -/
def tabRow (d : Nat) (v1 v2 : Value) (n : Bool) : Array Value := #[.int .i64 (d : Int), .bool false, v1, .bool false, .bool n, v2, .bool false]

set_option maxRecDepth 100000 in
set_option maxHeartbeats 2000000 in
theorem intNeg (E d M : Nat) (v1 : Value) (w : World) (hE : BlkAt w E (tabRow d v1 (.slice none 0 0) false) 219) (hv : NatAt w v1 (limbs M)) (hM : M ≠ 0) (hl : (limbs M).length ≤ 900) (hvE : ∀ g, natBlk v1 = some g → g ≠ E) :
    Calls Tryz.prog 231 #[.pointer (some ⟨E, 4, none⟩), .pointer (some ⟨E, 1, none⟩)] w fun e w' => e = .returned (.pointer (some ⟨E, 4, none⟩)) ∧ ∃ v2, BlkAt w' E (tabRow d v1 v2 true) 219 ∧ Fr (fun i => i = E) w w' := by
  have HS := hid (intSet E 4 E 1 _ _ 219 219 false false (.slice none 0 0) v1 [] (limbs M) w hE rfl rfl hE rfl rfl (NatAt.nil _) hv hl (fun _ => .inl (by omega)) (fun g h => by cases h))
  have hl1 := limbs_len_pos hM
  have hd : decide (0 < (limbs M).length) = true := decide_eq_true (by omega)
  clear hE hv hvE
  go_enter Tryz.func231, Tryz.ntmps231
  go_wp2_with fail
  refine HS.out.mono ?_
  rintro e w1 ⟨rfl, v2, r1, r2, r3, r4⟩
  have hF : Fr (fun i => i = E) w w1 := r4.mono (fun i hi h => h.elim (fun h => h) (fun h => by cases h))
  obtain ⟨A, c, rfl⟩ := r2.shape
  have r1' : BlkAt w1 E (tabRow d v1 (.slice A (limbs M).length c) false) 219 := r1
  have k5 : w1.cell? ⟨E, 5, none⟩ = some (.slice A (limbs M).length c) := by rw [blk_cell r1']; rfl
  have k4 : w1.cell? ⟨E, 4, none⟩ = some (.bool false) := by rw [blk_cell r1']; rfl
  have f4 : w1.frozen? ⟨E, 4, none⟩ = false := blk_frozen r1' _
  have s4 : BlkAt (w1.setCell ⟨E, 4, none⟩ (.bool true)) E (tabRow d v1 (.slice A (limbs M).length c) true) 219 := blk_set r1' 4 (.bool true)
  have N := hid (show ∃ v2, BlkAt (w1.setCell ⟨E, 4, none⟩ (.bool true)) E (tabRow d v1 v2 true) 219 ∧ Fr (fun i => i = E) w (w1.setCell ⟨E, 4, none⟩ (.bool true)) from ⟨_, s4, Fr.setCell (S := fun i => i = E) (p := ⟨E, 4, none⟩) hF (fun _ => rfl) _⟩)
  clear s4 r1 r1' r2 r3 r4 hF
  generalize (limbs M).length = n at *
  go_wp2_with fail
  go_ret
  exact ⟨rfl, N.out⟩

set_option maxRecDepth 100000 in
set_option maxHeartbeats 2000000 in
theorem bigNeg (E d M : Nat) (v1 : Value) (w : World) (hE : BlkAt w E (tabRow d v1 (.slice none 0 0) false) 219) (hv : NatAt w v1 (limbs M)) (hM : M ≠ 0) (hl : (limbs M).length ≤ 900) (hvE : ∀ g, natBlk v1 = some g → g ≠ E) :
    Calls Tryz.prog 197 #[.pointer (some ⟨E, 4, none⟩), .pointer (some ⟨E, 1, none⟩)] w fun e w' => e = .returned (.pointer (some ⟨E, 4, none⟩)) ∧ ∃ v2, BlkAt w' E (tabRow d v1 v2 true) 219 ∧ Fr (fun i => i = E) w w' := by
  have s6 : BlkAt (w.setCell ⟨E, 6, none⟩ (.bool false)) E (tabRow d v1 (.slice none 0 0) false) 219 := blk_set hE 6 (.bool false)
  have hF : Fr (fun i => i = E) w (w.setCell ⟨E, 6, none⟩ (.bool false)).drew := (Fr.setCell (S := fun i => i = E) (p := ⟨E, 6, none⟩) (Fr.refl _ _) (fun _ => rfl) _).drew
  have HN := hid (intNeg E d M v1 (w.setCell ⟨E, 6, none⟩ (.bool false)).drew s6 (hv.fr hF (fun g hg h => hvE g hg h)) hM hl hvE)
  have hl1 := limbs_len_pos hM
  have k6 : w.cell? ⟨E, 6, none⟩ = some (.bool false) := by rw [blk_cell hE]; rfl
  have f6 : w.frozen? ⟨E, 6, none⟩ = false := blk_frozen hE _
  have k1 : w.cell? ⟨E, 1, none⟩ = some (.bool false) := by rw [blk_cell hE]; rfl
  have k2 : w.cell? ⟨E, 2, none⟩ = some v1 := by rw [blk_cell hE]; rfl
  have k3 : w.cell? ⟨E, 3, none⟩ = some (.bool false) := by rw [blk_cell hE]; rfl
  obtain ⟨A, c, hs⟩ := hv.shape
  have q0 : (((limbs M).length : Int) == 0) = false := beq_eq_false_iff_ne.2 (by omega)
  have HF := hid hF
  clear hE hv hvE s6 hF
  subst hs
  generalize (limbs M).length = n at *
  go_enter Tryz.func197, Tryz.ntmps197
  go_wp2_with (first | (go_at_call 150; go_in))
  go_region_with (first | (go_at_call 231; refine HN.out.mono ?_; rintro e w1 ⟨rfl, r⟩; have R := hid r; clear r))
  obtain ⟨v2, r1, r2⟩ := R.out
  have N := hid (show ∃ v2, BlkAt w1 E (tabRow d (.slice A n c) v2 true) 219 ∧ Fr (fun i => i = E) w w1 from ⟨v2, r1, HF.out.trans r2 (fun _ _ h => h)⟩)
  clear r1 r2 R
  go_wp2_with fail
  go_ret
  exact ⟨rfl, N.out⟩
end Go.Proofs.YteokhhepnoelhaaGreatDoor

set_option linter.unusedVariables false
set_option linter.unusedSimpArgs false
namespace Go.Proofs.YteokhhepnoelhaaGreatDoor
open Go.RowKit

/-- As NatAt, of any capacity: a number that is only read. -/
def NatSrc (w : World) (v : Value) (xs : List Nat) : Prop :=
  (v = .slice none 0 0 ∧ xs = []) ∨ ∃ g cap cs, v = .slice (some ⟨g, 0, none⟩) xs.length cap ∧ w.heap[g]? = some (.cells cs 105 (0, 0)) ∧ cap ≤ cs.size ∧ xs.length ≤ cap ∧ ∀ (j x : Nat), xs[j]? = some x → cs[j]? = some (.int .u64 (x : Int))
theorem NatSrc.nil (w : World) : NatSrc w (.slice none 0 0) [] := .inl ⟨rfl, rfl⟩
theorem NatSrc.fr {w w' : World} {S : Nat → Prop} {v : Value} {xs : List Nat} (h : NatSrc w v xs) (hF : Fr S w w') (hS : ∀ g, natBlk v = some g → ¬ S g) : NatSrc w' v xs := by
  rcases h with h | ⟨g, cap, cs, rfl, hg, r⟩
  · exact .inl h
  · exact .inr ⟨g, cap, cs, rfl, hF.blk hg (hS g rfl), r⟩
theorem NatSrc.shape {w : World} {v : Value} {xs : List Nat} (h : NatSrc w v xs) : ∃ A c, v = .slice A xs.length c := by
  rcases h with ⟨rfl, rfl⟩ | ⟨g, cap, cs, rfl, _⟩
  · exact ⟨none, 0, rfl⟩
  · exact ⟨_, cap, rfl⟩
theorem NatSrc.cellS {w : World} {v : Value} {xs : List Nat} (h : NatSrc w v xs) (hne : xs ≠ []) : ∃ g cap, v = .slice (some ⟨g, 0, none⟩) xs.length cap ∧ (∀ (j x : Nat), xs[j]? = some x → w.cell? ⟨g, j, none⟩ = some (.int .u64 (x : Int))) ∧ xs.length ≤ cap ∧ g < w.heap.size := by
  rcases h with ⟨_, rfl⟩ | ⟨g, cap, cs, rfl, hg, h1, h2, h4⟩
  · exact absurd rfl hne
  · exact ⟨g, cap, rfl, fun j x hj => by rw [blk_cell hg]; exact h4 j x hj, h2, blk_lt hg⟩
def NormedS (w : World) (v : Value) (xs : List Nat) (e : Ending) (w' : World) : Prop :=
  w = w' ∧ ∃ v', e = .returned v' ∧ NatSrc w v' (normL xs) ∧ natBlk v' = natBlk v

set_option maxRecDepth 100000 in
set_option maxHeartbeats 1000000 in
theorem natNormS (v : Value) (xs : List Nat) (w : World) (hv : NatSrc w v xs) (hlx : xs.length ≤ 900) : Calls Tryz.prog 111 #[v] w (NormedS w v xs) := by
  rcases hv with ⟨rfl, rfl⟩ | ⟨g, cap, cs, rfl, hg, h1, h2, h4⟩
  · have N : NormedS w (.slice none 0 0) [] (.returned (.slice none 0 0)) w := ⟨rfl, _, rfl, NatSrc.nil w, rfl⟩
    have N := hid N
    go_enter Tryz.func111, Tryz.ntmps111
    go_wp2
    go_rounds 1
    go_ret
    exact N.out
  · have HG := hid hg; have H4 := hid h4
    clear hg h4
    go_enter Tryz.func111, Tryz.ntmps111
    go_wp2
    go_loop [3] (fun i => ∃ k : Nat, k ≤ xs.length ∧ i = .int .i64 k ∧ Hid (normL xs = normL (xs.take k))) (fun i => (intOf i).toNat)
    case atStart => exact ⟨xs.length, Nat.le_refl _, rfl, by rw [List.take_length]; exact hid rfl⟩
    case round =>
      obtain ⟨k, hk, rfl, hn⟩ := hrel
      by_cases hk0 : k = 0
      · subst hk0
        have N : NormedS w (.slice (some ⟨g, 0, none⟩) xs.length cap) xs (.returned (.slice (some ⟨g, 0, none⟩) 0 cap)) w :=
          ⟨rfl, _, rfl, by rw [hn.out]; exact .inr ⟨g, cap, cs, rfl, HG.out, h1, by simp [normL], by simp [normL]⟩, rfl⟩
        have N := hid N
        clear hn
        go_wp2
        go_ret
        exact N.out
      · obtain ⟨j, rfl⟩ : ∃ j, k = j + 1 := ⟨k - 1, by omega⟩
        obtain ⟨x, hx⟩ : ∃ x, xs[j]? = some x := ⟨xs[j], List.getElem?_eq_getElem (by omega)⟩
        have htk : xs.take (j + 1) = xs.take j ++ [x] := by rw [List.take_add_one, hx]; rfl
        have hcell : w.cell? ⟨g, j, none⟩ = some (.int .u64 (x : Int)) := by rw [blk_cell HG.out]; exact H4.out j x hx
        by_cases hx0 : x = 0
        · subst hx0
          have hn2 : normL xs = normL (xs.take j) := by rw [hn.out, htk, normL_snoc_zero]
          have HN := hid hn2
          clear hn hn2 htk hx
          go_wp2
          go_round
          case rel => exact ⟨j, by omega, by go_num, HN⟩
          case measure => simp [intOf]
        · have hxb : ((x : Int) == 0) = false := by simp; omega
          have hn2 : normL xs = xs.take (j + 1) := by rw [hn.out, htk, normL_snoc _ _ hx0]
          have hlen : (xs.take (j + 1)).length = j + 1 := by rw [List.length_take]; omega
          have hat : NatSrc w (.slice (some ⟨g, 0, none⟩) (j + 1) cap) (normL xs) := by
            rw [hn2]
            refine .inr ⟨g, cap, cs, by rw [hlen], HG.out, h1, by omega, fun i u hi => H4.out i u ?_⟩
            rw [List.getElem?_take] at hi
            split at hi
            · exact hi
            · cases hi
          have N : NormedS w (.slice (some ⟨g, 0, none⟩) xs.length cap) xs (.returned (.slice (some ⟨g, 0, none⟩) (j + 1) cap)) w :=
            ⟨rfl, _, rfl, hat, rfl⟩
          have N := hid N
          clear hn hn2 htk hx hlen hat
          go_wp2
          go_ret
          exact N.out

set_option maxRecDepth 100000 in
set_option maxHeartbeats 1000000 in
theorem natSetS (v vx : Value) (zs xs : List Nat) (w : World) (hv : NatAt w v zs) (hvx : NatSrc w vx xs) (hl : xs.length ≤ 900) :
    Calls Tryz.prog 110 #[v, vx] w (RowRes w v xs) := by
  by_cases hne : xs = []
  · subst hne
    obtain ⟨A, c, rfl⟩ := hvx.shape
    have HV := hid hv
    rcases hv with ⟨rfl, rfl⟩ | ⟨g, cap, cs, rfl, hg, h1, h2, h3, h4⟩
    · have N : RowRes w (.slice none 0 0) [] (.returned (.slice none 0 0)) w := ⟨_, rfl, NatAt.nil w, Fr.refl _ _, fun g h => by cases h⟩
      have N := hid N
      clear hvx
      rw [show ([] : List Nat).length = 0 from rfl] at *
      go_enter Tryz.func110, Tryz.ntmps110
      go_wp2_with (first | (go_at_call 153; go_in) | (refine wpList_copy_nothing rfl (.tmp 9) (.tmp 10) 66 66 rfl 105 Tryz.underlying66 Tryz.size105 _ _ _ _ _ _ rfl rfl rfl ?_))
      go_ret
      exact N.out
    · have N : RowRes w (.slice (some ⟨g, 0, none⟩) zs.length cap) [] (.returned (.slice (some ⟨g, 0, none⟩) 0 cap)) w :=
        ⟨.slice (some ⟨g, 0, none⟩) 0 cap, rfl, .inr ⟨g, cap, cs, rfl, hg, h1, Nat.zero_le _, h3, by simp⟩, Fr.refl _ _, fun k h => .inl h⟩
      have N := hid N
      clear hvx hg h4
      rw [show ([] : List Nat).length = 0 from rfl] at *
      go_enter Tryz.func110, Tryz.ntmps110
      go_wp2_with (first | (go_at_call 153; go_in) | (refine wpList_copy_nothing rfl (.tmp 9) (.tmp 10) 66 66 rfl 105 Tryz.underlying66 Tryz.size105 _ _ _ _ _ _ rfl rfl rfl ?_))
      go_ret
      exact N.out
  · obtain ⟨gx, capx, rfl, hcx, hcap, hgx⟩ := hvx.cellS hne
    have hl1 : 1 ≤ xs.length := by
      have : xs.length ≠ 0 := fun hh => hne (List.length_eq_zero_iff.1 hh)
      omega
    have HM := hid (natMake v zs xs.length w hv (by omega) (by omega))
    have HCX := hid hcx
    clear hcx hvx hv
    go_enter Tryz.func110, Tryz.ntmps110
    go_wp2_with fail
    refine HM.out.mono ?_
    clear HM
    rintro e w1 ⟨g, cap, cs, rfl, hg, h1, h2, h3, hF, hgb⟩
    have hsrc : ∀ (j : Nat) (u : Value), (u64s xs)[j]? = some u → w1.cell? ((⟨gx, 0, none⟩ : Addr).add j) = some u := fun j u hj => by
      rw [add_plain, Nat.zero_add]
      rw [u64s_get] at hj
      obtain ⟨x, hx, rfl⟩ := Option.map_eq_some_iff.1 hj
      exact hF.cell' (HCX.out j x hx) (fun h => h)
    have h1c : ∀ u ∈ u64s xs, u.oneCell' = true := fun u hu => by
      obtain ⟨x, _, rfl⟩ := List.mem_map.1 hu
      rfl
    have hlen : (u64s xs).length = xs.length := u64s_length xs
    obtain ⟨t1, t2⟩ := list_take_drop (cs := u64s xs) (cur := cs) (by omega)
    have hat : NatAt (w1.setRow g (u64s xs ++ cs.toList.drop (u64s xs).length).toArray) (.slice (some ⟨g, 0, none⟩) xs.length cap) xs :=
      .inr ⟨g, cap, _, rfl, setRow_heap w1 g _ _ _ _ hg, by omega, h2, h3, fun j x hj => t1 j _ (by rw [u64s_get, hj]; rfl)⟩
    have N : RowRes w v xs (.returned (.slice (some ⟨g, 0, none⟩) xs.length cap)) (w1.setRow g (u64s xs ++ cs.toList.drop (u64s xs).length).toArray) :=
      ⟨_, rfl, hat, Fr.setRow (hF.mono (fun _ _ h => h.elim)) (fun hlt => hgb.resolve_right (Nat.not_le.2 hlt)) _, fun k hk => by cases hk; exact hgb⟩
    have N := hid N
    have HG := hid hg; have HS := hid hsrc; have H1C := hid h1c; have HL := hid hlen
    clear hat t1 t2 hF hgb hg hsrc h1c hlen
    have C1 : Hid ((u64s xs).length = Nat.min xs.length xs.length) := hid (by rw [HL.out]; exact (Nat.min_self _).symm)
    have C2 : Hid (0 + (u64s xs).length ≤ cs.size) := hid (by rw [HL.out]; omega)
    go_wp2_with (refine wpList_copy_own rfl (.tmp 9) (.tmp 10) 66 66 rfl 105 Tryz.underlying66 Tryz.size105 g 0 xs.length cap ⟨gx, 0, none⟩ xs.length capx rfl rfl cs 105 HG.out (u64s xs) C1.out HS.out C2.out H1C.out ?_)
    go_ret
    exact N.out

set_option maxRecDepth 100000 in
set_option maxHeartbeats 2000000 in
theorem intSetS (Z oz X ox : Nat) (cs csx : Array Value) (t tx : TypeId) (nz nx : Bool) (vz vx : Value) (zs xs : List Nat) (w : World) (hZ : BlkAt w Z cs t) (h0 : cs[oz]? = some (.bool nz)) (h1 : cs[oz + 1]? = some vz)
    (hX : BlkAt w X csx tx) (x0 : csx[ox]? = some (.bool nx)) (x1 : csx[ox + 1]? = some vx) (hvz : NatAt w vz zs) (hvx : NatSrc w vx xs) (hl : xs.length ≤ 900) (hd : Z = X → ox + 1 < oz ∨ oz + 1 < ox) (hzZ : ∀ g, natBlk vz = some g → g ≠ Z ∧ g ≠ X) :
    Calls Tryz.prog 68 #[.pointer (some ⟨Z, oz, none⟩), .pointer (some ⟨X, ox, none⟩)] w fun e w' => e = .returned (.pointer (some ⟨Z, oz, none⟩)) ∧ SetRes w Z oz cs t vz nx xs w' := by
  have hq := neq102_other (a := ⟨Z, oz, none⟩) (b := ⟨X, ox, none⟩) w (fun e => by
    have e1 : Z = X := congrArg Addr.block e
    have e2 : oz = ox := congrArg Addr.off e
    rcases hd e1 with h | h <;> omega) hZ hX
  have c1 : w.cell? ⟨Z, oz + 1, none⟩ = some vz := by rw [blk_cell hZ]; exact h1
  have cx1 : w.cell? ⟨X, ox + 1, none⟩ = some vx := by rw [blk_cell hX]; exact x1
  have hFd : Fr NoB w w.drew := (Fr.refl _ _).drew
  have HS := hid (natSetS vz vx zs xs w.drew (hvz.fr hFd (fun _ _ h => h)) (hvx.fr hFd (fun _ _ h => h)) hl)
  obtain ⟨Az, cz, hz⟩ := hvz.shape
  obtain ⟨Ax, cx, hx⟩ := hvx.shape
  have fin : ∀ (w1 : World) (v' : Value), RowRes w.drew vz xs (.returned v') w1 → ∃ A n c, v' = .slice A n c ∧ BlkAt w1 Z cs t ∧
      (w1.setCell ⟨Z, oz + 1, none⟩ v').cell? ⟨X, ox, none⟩ = some (.bool nx) ∧ SetRes w Z oz cs t vz nx xs ((w1.setCell ⟨Z, oz + 1, none⟩ v').setCell ⟨Z, oz, none⟩ (.bool nx)) := by
    rintro w1 v' ⟨v, hv, r1, r2, r3⟩
    cases hv
    obtain ⟨A, c, hs⟩ := r1.shape
    have hb1 : BlkAt w1 Z cs t := r2.blk hZ (fun h => (hzZ Z h).1 rfl)
    have hbx : BlkAt w1 X csx tx := r2.blk hX (fun h => (hzZ X h).2 rfl)
    have s1 := blk_set hb1 (oz + 1) v'
    have s0 := blk_set s1 oz (.bool nx)
    have hF2 : ∀ a, Fr (fun i => i = Z ∨ natBlk vz = some i) a w1 → Fr (fun i => i = Z ∨ natBlk vz = some i) a ((w1.setCell ⟨Z, oz + 1, none⟩ v').setCell ⟨Z, oz, none⟩ (.bool nx)) := fun a ha =>
      Fr.setCell (S := fun i => i = Z ∨ natBlk vz = some i) (p := ⟨Z, oz, none⟩) (Fr.setCell (S := fun i => i = Z ∨ natBlk vz = some i) (p := ⟨Z, oz + 1, none⟩) ha (fun _ => .inl rfl) _) (fun _ => .inl rfl) _
    refine ⟨_, _, _, hs, hb1, ?_, v', s0, ?_, r3, hF2 w (Fr.trans (S := fun i => i = Z ∨ natBlk vz = some i) (hFd.mono (fun _ _ h => h.elim)) r2 (fun _ _ h => .inr h))⟩
    · by_cases e : X = Z
      · subst e
        have : cs = csx ∧ t = tx := by
          have := hZ.symm.trans hX
          simp at this
          exact this
        rw [blk_cell s1, Array.getElem?_setIfInBounds, if_neg (by rcases hd rfl with h | h <;> omega), this.1]
        exact x0
      · have hF3 : Fr (fun i => i = Z) w1 (w1.setCell ⟨Z, oz + 1, none⟩ v') := Fr.setCell (S := fun i => i = Z) (p := ⟨Z, oz + 1, none⟩) (Fr.refl _ _) (fun _ => rfl) _
        exact hF3.cell' (by rw [blk_cell hbx]; exact x0) e
    · have hF4 : Fr (fun i => i = Z) w1 ((w1.setCell ⟨Z, oz + 1, none⟩ v').setCell ⟨Z, oz, none⟩ (.bool nx)) :=
        Fr.setCell (S := fun i => i = Z) (p := ⟨Z, oz, none⟩) (Fr.setCell (S := fun i => i = Z) (p := ⟨Z, oz + 1, none⟩) (Fr.refl _ _) (fun _ => rfl) _) (fun _ => rfl) _
      refine r1.fr hF4 (fun g hg h => ?_)
      have h : g = Z := h
      rcases r3 g hg with h2 | h2
      · exact (hzZ g h2).1 h
      · have h3 := blk_lt hZ
        have h4 : w.drew.heap.size = w.heap.size := rfl
        omega
  have FIN := hid fin
  have H1 := hid h1; have H0 := hid h0
  clear hvz hvx hX x0 x1 hd hzZ hFd fin h0 h1 hZ
  subst hz; subst hx
  generalize zs.length = n1 at *
  generalize xs.length = n2 at *
  go_enter Tryz.func68, Tryz.ntmps68
  go_wp2_with fail
  go_region_with (first | (go_at_call 110; refine HS.out.mono ?_; rintro e w1 ⟨v', rfl, r1, r2, r3⟩; obtain ⟨A, n, c, rfl, hb1, hcx, hfin⟩ := FIN.out w1 v' ⟨v', rfl, r1, r2, r3⟩; have k1 : w1.cell? ⟨Z, oz + 1, none⟩ = some (.slice Az n1 cz) := (by rw [blk_cell hb1]; exact H1.out); have f1 : w1.frozen? ⟨Z, oz + 1, none⟩ = false := blk_frozen hb1 _; have HFI := hid hfin; have HB1 := hid hb1; clear hfin hb1 r1 r2 r3))
  all_goals
    have s1 := blk_set HB1.out (oz + 1) (.slice A n c)
    have k0 : (w1.setCell ⟨Z, oz + 1, none⟩ (.slice A n c)).cell? ⟨Z, oz, none⟩ = some (.bool nz) := by rw [blk_cell s1, Array.getElem?_setIfInBounds, if_neg (by omega)]; exact H0.out
    have f0 : (w1.setCell ⟨Z, oz + 1, none⟩ (.slice A n c)).frozen? ⟨Z, oz, none⟩ = false := blk_frozen s1 _
    clear s1
    go_wp2_with fail
    go_ret
    exact ⟨rfl, HFI.out⟩


set_option maxRecDepth 100000 in
set_option maxHeartbeats 1000000 in
theorem setBits (C : Nat) (vx : Value) (xs : List Nat) (w : World) (hC : BlkAt w C #[.bool false, .slice none 0 0] 68) (hx : NatSrc w vx xs) (hlx : xs.length ≤ 900) (hne : ∀ g, natBlk vx = some g → g ≠ C) :
    Calls Tryz.prog 70 #[.pointer (some ⟨C, 0, none⟩), vx] w fun e w' => e = .returned (.pointer (some ⟨C, 0, none⟩)) ∧ ∃ v', BlkAt w' C #[.bool false, v'] 68 ∧ NatSrc w' v' (normL xs) ∧ natBlk v' = natBlk vx ∧ Fr (fun i => i = C) w w' := by
  have HN := hid (natNormS vx xs w hx hlx)
  have c0 : w.cell? ⟨C, 0, none⟩ = some (.bool false) := by rw [blk_cell hC]; rfl
  have c1 : w.cell? ⟨C, 1, none⟩ = some (.slice none 0 0) := by rw [blk_cell hC]; rfl
  have f0 : w.frozen? ⟨C, 0, none⟩ = false := blk_frozen hC _
  have f1 : w.frozen? ⟨C, 1, none⟩ = false := blk_frozen hC _
  have HC := hid hC; have HNE := hid hne
  clear hC hx hne
  go_enter Tryz.func70, Tryz.ntmps70
  go_wp2_with fail
  refine HN.out.mono ?_
  rintro e w1 ⟨rfl, v', rfl, h1, h2⟩
  obtain ⟨A, c, rfl⟩ := h1.shape
  have s1 := blk_set HC.out 1 (.slice A (normL xs).length c)
  have s0 := blk_set s1 0 (.bool false)
  have hF : Fr (fun i => i = C) w ((w.setCell ⟨C, 1, none⟩ (.slice A (normL xs).length c)).setCell ⟨C, 0, none⟩ (.bool false)) := Fr.setCell (S := fun i => i = C) (p := ⟨C, 0, none⟩) (Fr.setCell (S := fun i => i = C) (p := ⟨C, 1, none⟩) (Fr.refl _ _) (fun _ => rfl) _) (fun _ => rfl) _
  have N := hid (show ∃ v', BlkAt ((w.setCell ⟨C, 1, none⟩ (.slice A (normL xs).length c)).setCell ⟨C, 0, none⟩ (.bool false)) C #[.bool false, v'] 68 ∧ NatSrc ((w.setCell ⟨C, 1, none⟩ (.slice A (normL xs).length c)).setCell ⟨C, 0, none⟩ (.bool false)) v' (normL xs) ∧ natBlk v' = natBlk vx ∧ Fr (fun i => i = C) w ((w.setCell ⟨C, 1, none⟩ (.slice A (normL xs).length c)).setCell ⟨C, 0, none⟩ (.bool false)) from
    ⟨_, s0, h1.fr hF (fun g hg h => HNE.out g (by rw [← h2]; exact hg) h), h2, hF⟩)
  clear s1 s0 hF h1 h2
  go_wp2_with fail
  go_ret
  exact ⟨rfl, N.out⟩

set_option maxRecDepth 100000 in
set_option maxHeartbeats 1000000 in
theorem setMathBigInt (Z C : Nat) (vx : Value) (xs : List Nat) (w : World) (hZ : BlkAt w Z #[.bool false, .slice none 0 0, .bool false] 70) (hC : BlkAt w C #[.bool false, vx] 68) (hZC : Z ≠ C) (hx : NatSrc w vx xs) (hl : xs.length ≤ 900) (hne : ∀ g, natBlk vx = some g → g ≠ Z) :
    Calls Tryz.prog 69 #[.pointer (some ⟨Z, 0, none⟩), .pointer (some ⟨C, 0, none⟩)] w fun e w' => e = .returned (.pointer (some ⟨Z, 0, none⟩)) ∧ ∃ v', BlkAt w' Z #[.bool false, v', .bool false] 70 ∧ NatAt w' v' xs ∧ (∀ g, natBlk v' = some g → w.heap.size ≤ g) ∧ Fr (fun i => i = Z) w w' := by
  have c2 : w.cell? ⟨Z, 2, none⟩ = some (.bool false) := by rw [blk_cell hZ]; rfl
  have f2 : w.frozen? ⟨Z, 2, none⟩ = false := blk_frozen hZ _
  have s2 := blk_set hZ 2 (.bool false)
  have hF : Fr (fun i => i = Z) w (w.setCell ⟨Z, 2, none⟩ (.bool false)) := Fr.setCell (S := fun i => i = Z) (p := ⟨Z, 2, none⟩) (Fr.refl _ _) (fun _ => rfl) _
  have HS := hid (intSetS Z 0 C 0 #[.bool false, .slice none 0 0, .bool false] #[.bool false, vx] 70 68 false false (.slice none 0 0) vx [] xs (w.setCell ⟨Z, 2, none⟩ (.bool false)) s2 rfl rfl (hF.blk hC (fun h => hZC h.symm)) rfl rfl (NatAt.nil _) (hx.fr hF (fun g hg h => hne g hg h)) hl (fun h => absurd h hZC) (fun g h => by cases h))
  have HF := hid hF
  have hsz : (w.setCell ⟨Z, 2, none⟩ (.bool false)).heap.size = w.heap.size := by simp
  have HSZ := hid hsz
  clear hZ hC hx hne s2 hF hsz
  go_enter Tryz.func69, Tryz.ntmps69
  go_wp2_with fail
  refine HS.out.mono ?_
  rintro e w1 ⟨rfl, v', r1, r2, r3, r4⟩
  have N := hid (show ∃ v', BlkAt w1 Z #[.bool false, v', .bool false] 70 ∧ NatAt w1 v' xs ∧ (∀ g, natBlk v' = some g → w.heap.size ≤ g) ∧ Fr (fun i => i = Z) w w1 from
    ⟨v', r1, r2, fun g hg => by
      have h := r3 g hg
      have h2 := HSZ.out
      have h3 : natBlk (.slice none 0 0) = none := rfl
      rw [h3] at h
      rcases h with h | h
      · exact nomatch h
      · omega, HF.out.trans r4 (fun i _ h => by
      have h3 : natBlk (.slice none 0 0) = none := rfl
      rw [h3] at h
      rcases h with h | h
      · exact h
      · exact nomatch h)⟩)
  clear r1 r2 r3 r4
  go_wp2_with fail
  go_ret
  exact ⟨rfl, N.out⟩
end Go.Proofs.YteokhhepnoelhaaGreatDoor

set_option linter.unusedVariables false
set_option linter.unusedSimpArgs false
namespace Go.Proofs.YteokhhepnoelhaaGreatDoor
open Go.RowKit

theorem Tryz.info36 : (Tryz.prog.info? 36).map (fun i => (i.zero, i.size, i.bytes)) = some (some (.int .u64 0), 1, 8) := by kernel_rfl

/-- A copy of a BigInt's number. -/
def MathRes (w : World) (xs : List Nat) (e : Ending) (w' : World) : Prop :=
  e = .returned (.pointer (some ⟨w.heap.size, 0, none⟩)) ∧ ∃ v', BlkAt w' w.heap.size #[.bool false, v'] 68 ∧ NatAt w' v' xs ∧ Fr NoB w w'

set_option maxRecDepth 100000 in
set_option maxHeartbeats 1000000 in
theorem mathBigInt (D o : Nat) (cs : Array Value) (t : TypeId) (v : Value) (xs : List Nat) (w : World) (hD : BlkAt w D cs t) (d0 : cs[o]? = some (.bool false)) (d1 : cs[o + 1]? = some v) (hv : NatAt w v xs) (hl : xs.length ≤ 900) :
    Calls Tryz.prog 49 #[.pointer (some ⟨D, o, none⟩)] w (MathRes w xs) := by
  have hb := blk_new w (.cells #[.bool false, .slice none 0 0] 68 (0, 0))
  have hF : Fr NoB w (w.alloc (.cells #[.bool false, .slice none 0 0] 68)) := (Fr.refl _ _).alloc _
  have hDl := blk_lt hD
  have HS := hid (intSet w.heap.size 0 D o #[.bool false, .slice none 0 0] cs 68 t false false (.slice none 0 0) v [] xs _ hb rfl rfl (hF.blk hD (fun h => h)) d0 d1 (NatAt.nil _) (hv.fr hF (fun _ _ h => h)) hl (fun e => by omega) (fun g h => by cases h))
  have fin : ∀ w1, SetRes (w.alloc (.cells #[.bool false, .slice none 0 0] 68)) w.heap.size 0 #[.bool false, .slice none 0 0] 68 (.slice none 0 0) false xs w1 → MathRes w xs (.returned (.pointer (some ⟨w.heap.size, 0, none⟩))) w1 := by
    rintro w1 ⟨v', r1, r2, r3, r4⟩
    exact ⟨rfl, v', r1, r2, hF.trans r4 (fun i hi h => by
      rcases h with h | h
      · omega
      · cases h)⟩
  have FIN := hid fin
  clear hb hF hD d0 d1 hv fin
  go_enter Tryz.func49, Tryz.ntmps49
  go_wp2_with fail
  refine HS.out.mono ?_
  rintro e w1 ⟨rfl, r⟩
  have N := hid (FIN.out w1 r)
  clear r
  go_wp2_with fail
  go_ret
  exact N.out

/-- The words of a number, in a slice of the call's own. -/
def WordsRes (w : World) (xs : List Nat) (e : Ending) (w' : World) : Prop :=
  ∃ v', e = .returned v' ∧ w'.ownsRow w.heap.size 36 1 v' xs.length (u64s xs) ∧ Fr NoB w w'

set_option maxRecDepth 100000 in
set_option maxHeartbeats 2000000 in
theorem implWords (D o : Nat) (cs : Array Value) (t : TypeId) (v : Value) (xs : List Nat) (w : World) (hD : BlkAt w D cs t) (d0 : cs[o]? = some (.bool false)) (d1 : cs[o + 1]? = some v) (hv : NatAt w v xs) (hl : xs.length ≤ 900) (hb : ∀ x ∈ xs, x < WB) :
    Calls Tryz.prog 38 #[.pointer (some ⟨D, o, none⟩)] w (WordsRes w xs) := by
  obtain ⟨i0, hi, hz0, hz1, hz2⟩ := info_parts Tryz.info36
  have HM := hid (mathBigInt D o cs t v xs w hD d0 d1 hv hl)
  have HI := hid hi
  clear hD d0 d1 hv hb
  go_enter Tryz.func38, Tryz.ntmps38
  go_wp2_with fail
  refine HM.out.mono ?_
  rintro e w1 ⟨rfl, v1, r1, r2, hF⟩
  have c1 : w1.cell? ⟨w.heap.size, 1, none⟩ = some v1 := by rw [blk_cell r1]; rfl
  have HN := hid r2; have HF := hid hF
  obtain ⟨A, c, rfl⟩ := r2.shape
  have hEl := blk_lt r1
  clear r1 r2 hF
  go_wp2_with (first | (go_at_call 50; go_in))
  have h0 : w1.ownsRow w1.heap.size 36 1 (.slice none 0 0) 0 (u64s (xs.take 0)) := ⟨by simp [u64s], .inl ⟨rfl, rfl⟩⟩
  have H0 := hid h0
  clear h0
  go_loopw [3, 10] (fun o i wr => ∃ (k : Nat) (ov : Value), ov = o ∧ k ≤ xs.length ∧ i = .int .i64 k ∧ Hid (wr.ownsRow w1.heap.size 36 1 ov k (u64s (xs.take k))) ∧ Hid (Below w1.heap.size w1 wr)) (fun _ i _ => xs.length - (intOf i).toNat)
  case atStart => exact ⟨0, _, rfl, Nat.zero_le _, rfl, H0, hid (Below.refl _ _)⟩
  case round =>
    obtain ⟨k, ov, rfl, hk, rfl, hO, hB⟩ := hrel
    by_cases hlt : k < xs.length
    · obtain ⟨x, hxk⟩ : ∃ x, xs[k]? = some x := ⟨xs[k], List.getElem?_eq_getElem hlt⟩
      obtain ⟨g, cap, hge, hc, hcap, hgl, hcm, _⟩ := HN.out.cell (fun h => by rw [h] at hlt; simp at hlt)
      cases hge
      have hFr : Fr NoB w1 wr := Fr.of_below hB.out _
      have hcell : wr.cell? ⟨g, k, none⟩ = some (.int .u64 (x : Int)) := hFr.cell' (hc k x hxk) (fun h => h)
      have htk : u64s (xs.take (k + 1)) = u64s (xs.take k) ++ [.int .u64 (x : Int)] := by
        rw [List.take_add_one, hxk, u64s_append]; rfl
      have HTK := hid htk
      have hbs : w1.heap.size ≤ wr.heap.size := hB.out.size
      clear hxk hc htk hFr
      go_wp2_with (at_builtin; refine wpList_append_own _ rfl (.tmp 14) (.tmp 16) 28 rfl w1.heap.size 36 i0 (.int .u64 0) 1 8 Tryz.underlying28 HI.out hz0 hz1 hz2 rfl (by decide) ov k (u64s (xs.take k)) rfl (hO.out.alloc _) ⟨wr.heap.size, 0, none⟩ 1 1 [.int .u64 (x : Int)] rfl rfl (cell_one_new _ _ _) (by simp [Value.oneCell']) (by unfold maxLen; omega) (by omega) (by simp; omega) ?_; intro v' w5 hown hgr _; refine Hid.out ?_)
      refine hid ?_
      rw [← HTK.out] at hown
      have HB5 : Hid (Below w1.heap.size w1 w5) := hid ((hB.out.alloc hbs _).grown hgr (by simp; omega) (by
        obtain ⟨_, h | ⟨g', cap', cur', h, h2, _⟩⟩ := hO.out
        · rw [h.1]; intro b hb; cases hb
        · rw [h]; intro b hb; cases hb; exact h2))
      have HO5 := hid hown
      clear hown hgr
      go_wp2_with fail
      go_roundw
      case rel => first | exact ⟨k + 1, _, rfl, by omega, by go_num, HO5, HB5⟩ | ((repeat apply Exists.intro); exact ⟨⟨k + 1, _, rfl, by omega, by go_num, HO5, HB5⟩, rfl⟩)
      case measure => simp [intOf]; omega
    · obtain rfl : k = xs.length := by omega
      have hO2 := hO.out
      rw [List.take_length] at hO2
      have hF2 : Fr NoB w wr := HF.out.trans (Fr.of_below hB.out NoB) (fun _ _ h => h)
      have hO3 : wr.ownsRow w.heap.size 36 1 ov xs.length (u64s xs) := by
        obtain ⟨h1, h | ⟨g', cap', cur', h, h2, h3⟩⟩ := hO2
        · exact ⟨h1, .inl h⟩
        · exact ⟨h1, .inr ⟨g', cap', cur', h, by omega, h3⟩⟩
      have N := hid (show WordsRes w xs (.returned ov) wr from ⟨ov, rfl, hO3, hF2⟩)
      clear hO2 hF2 hO3
      go_wp2_with fail
      go_ret
      exact N.out
end Go.Proofs.YteokhhepnoelhaaGreatDoor
