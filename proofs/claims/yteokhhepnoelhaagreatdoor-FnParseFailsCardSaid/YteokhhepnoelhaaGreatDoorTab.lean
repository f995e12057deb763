/-
  digitsLookup: a row of the table of digits.
-/
import Derived.Test.YteokhhepnoelhaaGreatDoorBigD
set_option linter.unusedVariables false
set_option linter.unusedSimpArgs false
namespace Go.Proofs.YteokhhepnoelhaaGreatDoor
open Go.RowKit

/-- How many digits the least number of i bits has. -/
def tabDigits (i : Nat) : Nat := Lib.nDigits (2 ^ (i - 1))
theorem tabDigits_bounds {i : Nat} (h1 : 1 ≤ i) (h2 : i ≤ 129) : 1 ≤ tabDigits i ∧ tabDigits i ≤ 40 := by
  refine ⟨Lib.nDigits_pos _, nDigits_le (Nat.ne_of_gt (Nat.pow_pos (by omega))) ?_⟩
  have a : 2 ^ (i - 1) ≤ 2 ^ 128 := Nat.pow_le_pow_right (by omega) (by omega)
  have b : (2 : Nat) ^ 128 < 10 ^ 40 := by decide +kernel
  omega
theorem blen_pow (s : Nat) : blen (2 ^ s) = s + 1 := blen_eq (Nat.le_refl _) (Nat.pow_lt_pow_right (by omega) (by omega))

theorem str_size' (l : List UInt8) : (ByteArray.mk l.toArray).size = l.length := by simp [ByteArray.size]

/-- What digitsLookup gives: a row of its own. -/
def TabRes (w : World) (i : Nat) (e : Ending) (w' : World) : Prop :=
  ∃ E v1 v2, e = .returned (.pointer (some ⟨E, 0, none⟩)) ∧ w.heap.size ≤ E ∧ BlkAt w' E (tabRow (tabDigits i) v1 v2 true) 219 ∧ NatAt w' v1 (limbs (10 ^ tabDigits i)) ∧ Fr NoB w w'

set_option maxRecDepth 100000 in
set_option maxHeartbeats 4000000 in
theorem digitsLookup (i : Nat) (w : World) (hT : Thr w) (h1 : 1 ≤ i) (h2 : i ≤ 129) : Calls Tryz.prog 166 #[.int .i64 (i : Int)] w (TabRes w i) := by
  obtain ⟨d1, d2⟩ := tabDigits_bounds h1 h2
  have i0 : ((i : Int) == 0) = false := beq_eq_false_iff_ne.2 (by omega)
  have hdd : (Lib.decDigits (2 ^ (i - 1))).length = tabDigits i := by rw [Lib.decDigits_length]; rfl
  obtain ⟨d, hd⟩ : ∃ d, tabDigits i = d := ⟨_, rfl⟩
  rw [hd] at d1 d2 hdd
  have HDD := hid hdd; have HD := hid hd
  clear hdd hd
  have h19 := hT.size
  have HT := hid hT
  clear hT
  have hsub : (i : Int) - 1 = ((i - 1 : Nat) : Int) := by omega
  have HSUB := hid hsub
  clear hsub
  have hE0 := blk_new w (.cells (tabRow 0 (.slice none 0 0) (.slice none 0 0) false) 219 (0, 0))
  have hF0 : Fr NoB w (w.alloc (.cells (tabRow 0 (.slice none 0 0) (.slice none 0 0) false) 219)) := (Fr.refl _ _).alloc _
  have hs0 : (w.alloc (.cells (tabRow 0 (.slice none 0 0) (.slice none 0 0) false) 219)).heap.size = w.heap.size + 1 := by simp
  have HE0 := hid hE0; have HF0 := hid hF0; have HS0 := hid hs0
  clear hE0 hF0 hs0
  unfold tabRow at HE0 HF0 HS0
  go_enter Tryz.func166, Tryz.ntmps166
  go_wp2_with fail
  generalize hw0 : (w.alloc (.cells #[.int .i64 0, .bool false, .slice none 0 0, .bool false, .bool false, .slice none 0 0, .bool false] 219)) = w0 at *
  clear hw0
  have hE0 : BlkAt w0 w.heap.size (tabRow 0 (.slice none 0 0) (.slice none 0 0) false) 219 := HE0.out
  have HE0 := hid hE0
  clear hE0
  -- the number 1
  have HNB := newBigInt 1 (by omega) w0
  unfold NewBig at HNB
  rw [HS0.out] at HNB
  refine HNB.mono ?_
  clear HNB
  rintro e w1 ⟨rfl, v, b1, b2, b3, b4⟩
  rw [limbs_one] at b2
  have hF1 : Fr NoB w w1 := HF0.out.trans b4 (fun _ _ h => h)
  have hE1 : BlkAt w1 w.heap.size (tabRow 0 (.slice none 0 0) (.slice none 0 0) false) 219 := b4.blk HE0.out (fun h => h)
  have hL := bigLsh_one (w.heap.size + 1) v false (i - 1) w1 b1 b2 b3 (by omega)
  rw [← HSUB.out] at hL
  have HL := hid hL; have HF1 := hid hF1; have HE1 := hid hE1
  clear b1 b2 b3 b4 hF1 hE1 hL
  go_wp2_with fail
  refine HL.out.mono ?_
  rintro e w2 ⟨rfl, v', b1, b2, b3, b4⟩
  have hF2 : Fr NoB w w2 := HF1.out.trans b4 (fun j hj h => by omega)
  have hE2 : BlkAt w2 w.heap.size (tabRow 0 (.slice none 0 0) (.slice none 0 0) false) 219 := b4.blk HE1.out (by omega)
  have HST := hid (bigString (w.heap.size + 1) 0 v' (2 ^ (i - 1)) w2 (by rw [blk_cell b1]; rfl) (by rw [blk_cell b1]; rfl) b2 (by rw [blen_pow]; omega) (HT.out.fr hF2 (fun _ _ h => h)))
  have HF2 := hid hF2; have HE2 := hid hE2
  clear b1 b2 b3 b4 hF2 hE2
  go_wp2_with fail
  refine HST.out.mono ?_
  rintro e w3 ⟨rfl, q⟩
  have hF3 : Fr NoB w w3 := HF2.out.trans q (fun _ _ h => h)
  have hE3 : BlkAt w3 w.heap.size (tabRow 0 (.slice none 0 0) (.slice none 0 0) false) 219 := q.blk HE2.out (fun h => h)
  have c0 : w3.cell? ⟨w.heap.size, 0, none⟩ = some (.int .i64 0) := by rw [blk_cell hE3]; rfl
  have g0 : w3.frozen? ⟨w.heap.size, 0, none⟩ = false := blk_frozen hE3 _
  have hsz : (ByteArray.mk (Lib.decDigits (2 ^ (i - 1))).toArray).size = d := by rw [str_size']; exact HDD.out
  have hE4 : BlkAt (w3.setCell ⟨w.heap.size, 0, none⟩ (.int .i64 (d : Int))) w.heap.size (tabRow d (.slice none 0 0) (.slice none 0 0) false) 219 := blk_set hE3 0 _
  have hF4 : Fr NoB w (w3.setCell ⟨w.heap.size, 0, none⟩ (.int .i64 (d : Int))) := Fr.setCell (S := NoB) (p := ⟨w.heap.size, 0, none⟩) hF3 (fun h => absurd h (Nat.lt_irrefl _)) _
  have hX := blk_new (w3.setCell ⟨w.heap.size, 0, none⟩ (.int .i64 (d : Int))) (.cells #[.bool false, .slice none 0 0, .bool false] 70 (0, 0))
  have hF5 : Fr NoB w ((w3.setCell ⟨w.heap.size, 0, none⟩ (.int .i64 (d : Int))).alloc (.cells #[.bool false, .slice none 0 0, .bool false] 70)) := hF4.alloc _
  have hE5 : BlkAt ((w3.setCell ⟨w.heap.size, 0, none⟩ (.int .i64 (d : Int))).alloc (.cells #[.bool false, .slice none 0 0, .bool false] 70)) w.heap.size (tabRow d (.slice none 0 0) (.slice none 0 0) false) 219 := blk_alloc hE4 _
  have hsz4 : (w3.setCell ⟨w.heap.size, 0, none⟩ (.int .i64 (d : Int))).heap.size = w3.heap.size := by simp
  rw [hsz4] at hX
  have hEl : w.heap.size < w3.heap.size := blk_lt hE3
  have HX := hid hX; have HF5 := hid hF5; have HE5 := hid hE5
  clear hE4 hF4 hX hF5 hE5 hE3 hF3 q hsz4
  go_wp2_with fail
  generalize ((w3.setCell ⟨w.heap.size, 0, none⟩ (.int .i64 (d : Int))).alloc (.cells #[.bool false, .slice none 0 0, .bool false] 70)) = w5 at *
  refine (bigSetInt64 w.heap.size 1 (tabRow d (.slice none 0 0) (.slice none 0 0) false) 219 false false 10 w5 HE5.out rfl rfl rfl (by omega)).mono ?_
  rintro e w6 ⟨rfl, v1, b1, b2, b3, b4⟩
  have hF6 : Fr NoB w w6 := HF5.out.trans b4 (fun j hj h => by have h : j = w.heap.size := h; omega)
  have hE6 : BlkAt w6 w.heap.size (tabRow d v1 (.slice none 0 0) false) 219 := b1
  have hX6 : BlkAt w6 w3.heap.size #[.bool false, .slice none 0 0, .bool false] 70 := b4.blk HX.out (by omega)
  have k0 : w6.cell? ⟨w.heap.size, 0, none⟩ = some (.int .i64 (d : Int)) := by rw [blk_cell hE6]; rfl
  have hxl5 : w3.heap.size < w5.heap.size := blk_lt HX.out
  rw [limbs_small (k := 10) (by omega) (by rw [WB_eq]; omega)] at b2
  have HF6 := hid hF6; have HE6 := hid hE6; have HX6 := hid hX6; have B2 := hid b2; have B3 := hid b3
  clear hF6 hE6 hX6 b1 b2 b3 b4
  go_wp2_with fail
  refine (bigSetInt64 w3.heap.size 0 _ 70 false false d w6 HX6.out rfl rfl rfl (by omega)).mono ?_
  rintro e w7 ⟨rfl, vy, b1, b2, b3, b4⟩
  have hF7 : Fr NoB w w7 := HF6.out.trans b4 (fun j hj h => by have h : j = w3.heap.size := h; omega)
  have hE7 : BlkAt w7 w.heap.size (tabRow d v1 (.slice none 0 0) false) 219 := b4.blk HE6.out (by omega)
  have hX7 : BlkAt w7 w3.heap.size #[.bool false, vy, .bool false] 70 := b1
  have hv7 : NatAt w7 v1 [10] := B2.out.fr b4 (fun g hg h => by have h : g = w3.heap.size := h; have := B3.out g hg; omega)
  rw [limbs_small (k := d) (by omega) (by rw [WB_eq]; omega)] at b2
  have hFd : Fr NoB w7 w7.drew := (Fr.refl _ _).drew
  have hxl6 : w3.heap.size < w6.heap.size := blk_lt HX6.out
  have HB := hid (bigExp w.heap.size 1 w.heap.size 1 w3.heap.size 0 (tabRow d v1 (.slice none 0 0) false) 219 false false v1 vy true d w7.drew hE7 rfl rfl rfl
    (by rw [blk_cell (show w7.drew.heap[w.heap.size]? = some (.cells (tabRow d v1 (.slice none 0 0) false) 219 (0, 0)) from hE7)]; rfl)
    (by rw [blk_cell (show w7.drew.heap[w.heap.size]? = some (.cells (tabRow d v1 (.slice none 0 0) false) 219 (0, 0)) from hE7)]; rfl)
    (by rw [blk_cell (show w7.drew.heap[w3.heap.size]? = some (.cells #[.bool false, vy, .bool false] 70 (0, 0)) from hX7)]; rfl)
    (by rw [blk_cell (show w7.drew.heap[w3.heap.size]? = some (.cells #[.bool false, vy, .bool false] 70 (0, 0)) from hX7)]; rfl)
    (hv7.fr hFd (fun _ _ h => h)) (b2.fr hFd (fun _ _ h => h)) ((HT.out.fr hF7 (fun _ _ h => h)).fr hFd (fun _ _ h => h)) d1 (by omega) (.inl ⟨rfl, rfl⟩) (by omega)
    (fun g hg => by have := B3.out g hg; omega) (fun g hg => by have := b3 g hg; omega) (by omega))
  have hE7s : w.heap.size < w7.heap.size := blk_lt hE7
  have HF7 := hid hF7
  clear hF7 hE7 hX7 hv7 b1 b2 b3 b4 hFd
  go_wp2_with fail
  go_region_with (first | (go_at_call 178; refine HB.out.mono ?_; rintro e w8 ⟨rfl, r⟩; have R := hid r; clear r))
  obtain ⟨v8, b1, b2, b3, b4⟩ := R.out
  have hF8 : Fr NoB w w8 := HF7.out.drew.trans b4 (fun j hj h => by have h : j = w.heap.size := h; omega)
  have hE8 : BlkAt w8 w.heap.size (tabRow d v8 (.slice none 0 0) false) 219 := b1
  have hFd : Fr NoB w8 w8.drew := (Fr.refl _ _).drew
  have hsd : w7.drew.heap.size = w7.heap.size := rfl
  have hE7l : w.heap.size < w7.drew.heap.size := hE7s
  have hv8 : ∀ g, natBlk v8 = some g → g ≠ w.heap.size := fun g hg => by have := b3 g hg; omega
  have HN := hid (bigNeg w.heap.size d (10 ^ d) v8 w8.drew hE8 (b2.fr hFd (fun _ _ h => h)) (pow_ne d) (Nat.le_trans (pow_len d (by omega)) (by omega)) hv8)
  have B2' := hid b2; have HF8 := hid hF8; have HV8 := hid hv8
  clear b1 b2 b3 b4 hF8 hE8 hFd hsd hE7l hv8 R
  go_wp2_with fail
  go_region_with (first | (go_at_call 197; refine HN.out.mono ?_; rintro e w9 ⟨rfl, r⟩; have R := hid r; clear r))
  obtain ⟨v9, b1, b2⟩ := R.out
  have N := hid (show TabRes w i (.returned (.pointer (some ⟨w.heap.size, 0, none⟩))) w9 from ⟨w.heap.size, v8, v9, rfl, Nat.le_refl _, by rw [HD.out]; exact b1, by rw [HD.out]; exact B2'.out.fr ((Fr.refl NoB w8).drew.mono (fun _ _ h => h.elim) |>.trans b2 (fun _ _ h => h)) (fun g hg h => HV8.out g hg h), HF8.out.drew.trans b2 (fun j hj h => by have h : j = w.heap.size := h; omega)⟩)
  clear b1 b2 R
  go_wp2_with fail
  go_ret
  exact N.out
end Go.Proofs.YteokhhepnoelhaaGreatDoor
