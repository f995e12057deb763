/-
  apd's Text and impl.Text at a finite decimal.
-/
import Derived.Test.YteokhhepnoelhaaGreatDoorBkA
import Derived.Test.YteokhhepnoelhaaGreatDoorBkB

set_option linter.unusedVariables false
set_option linter.unusedSimpArgs false
namespace Go.Proofs.YteokhhepnoelhaaGreatDoor
open Go.RowKit

/-- How many digits the least number of i bits has. -/
def tabDigits (i : Nat) : Nat := Lib.nDigits (2 ^ (i - 1))
theorem tabDigits_bounds {i : Nat} (h1 : 1 ≤ i) (h2 : i ≤ 129) : 1 ≤ tabDigits i ∧ tabDigits i ≤ 40 := by
  refine ⟨Lib.nDigits_pos _, nDigits_le (Nat.ne_of_gt (Nat.pow_pos (by omega))) ?_⟩
  have a : 2 ^ (i - 1) ≤ 2 ^ 128 := Nat.pow_le_pow_right (by omega) (by omega)
  have b : (2 : Nat) ^ 128 < 10 ^ 40 := by decide +kernel
  omega
theorem blen_pow (s : Nat) : blen (2 ^ s) = s + 1 := blen_eq (Nat.le_refl _) (Nat.pow_lt_pow_right (by omega) (by omega))

theorem str_size' (l : List UInt8) : (ByteArray.mk l.toArray).size = l.length := by simp [ByteArray.size]

/-- What digitsLookup gives: a row of its own. -/
def TabRes (w : World) (i : Nat) (e : Ending) (w' : World) : Prop :=
  ∃ E v1 v2, e = .returned (.pointer (some ⟨E, 0, none⟩)) ∧ w.heap.size ≤ E ∧ BlkAt w' E (tabRow (tabDigits i) v1 v2 true) 219 ∧ NatAt w' v1 (limbs (10 ^ tabDigits i)) ∧ Fr NoB w w'

set_option maxRecDepth 100000 in
set_option maxHeartbeats 4000000 in
theorem digitsLookup (i : Nat) (w : World) (hT : Thr w) (h1 : 1 ≤ i) (h2 : i ≤ 129) : Calls Tryz.prog 166 #[.int .i64 (i : Int)] w (TabRes w i) := by
  obtain ⟨d1, d2⟩ := tabDigits_bounds h1 h2
  have i0 : ((i : Int) == 0) = false := beq_eq_false_iff_ne.2 (by omega)
  have hdd : (Lib.decDigits (2 ^ (i - 1))).length = tabDigits i := by rw [Lib.decDigits_length]; rfl
  obtain ⟨d, hd⟩ : ∃ d, tabDigits i = d := ⟨_, rfl⟩
  rw [hd] at d1 d2 hdd
  have HDD := hid hdd; have HD := hid hd
  clear hdd hd
  have h19 := hT.size
  have HT := hid hT
  clear hT
  have hsub : (i : Int) - 1 = ((i - 1 : Nat) : Int) := by omega
  have HSUB := hid hsub
  clear hsub
  have hE0 := blk_new w (.cells (tabRow 0 (.slice none 0 0) (.slice none 0 0) false) 219 (0, 0))
  have hF0 : Fr NoB w (w.alloc (.cells (tabRow 0 (.slice none 0 0) (.slice none 0 0) false) 219)) := (Fr.refl _ _).alloc _
  have hs0 : (w.alloc (.cells (tabRow 0 (.slice none 0 0) (.slice none 0 0) false) 219)).heap.size = w.heap.size + 1 := by simp
  have HE0 := hid hE0; have HF0 := hid hF0; have HS0 := hid hs0
  clear hE0 hF0 hs0
  unfold tabRow at HE0 HF0 HS0
  go_enter Tryz.func166, Tryz.ntmps166
  go_wp2_with fail
  generalize hw0 : (w.alloc (.cells #[.int .i64 0, .bool false, .slice none 0 0, .bool false, .bool false, .slice none 0 0, .bool false] 219)) = w0 at *
  clear hw0
  have hE0 : BlkAt w0 w.heap.size (tabRow 0 (.slice none 0 0) (.slice none 0 0) false) 219 := HE0.out
  have HE0 := hid hE0
  clear hE0
  -- the number 1
  have HNB := newBigInt 1 (by omega) w0
  unfold NewBig at HNB
  rw [HS0.out] at HNB
  refine HNB.mono ?_
  clear HNB
  rintro e w1 ⟨rfl, v, b1, b2, b3, b4⟩
  rw [limbs_one] at b2
  have hF1 : Fr NoB w w1 := HF0.out.trans b4 (fun _ _ h => h)
  have hE1 : BlkAt w1 w.heap.size (tabRow 0 (.slice none 0 0) (.slice none 0 0) false) 219 := b4.blk HE0.out (fun h => h)
  have hL := bigLsh_one (w.heap.size + 1) v false (i - 1) w1 b1 b2 b3 (by omega)
  rw [← HSUB.out] at hL
  have HL := hid hL; have HF1 := hid hF1; have HE1 := hid hE1
  clear b1 b2 b3 b4 hF1 hE1 hL
  go_wp2_with fail
  refine HL.out.mono ?_
  rintro e w2 ⟨rfl, v', b1, b2, b3, b4⟩
  have hF2 : Fr NoB w w2 := HF1.out.trans b4 (fun j hj h => by omega)
  have hE2 : BlkAt w2 w.heap.size (tabRow 0 (.slice none 0 0) (.slice none 0 0) false) 219 := b4.blk HE1.out (by omega)
  have HST := hid (bigString (w.heap.size + 1) 0 v' (2 ^ (i - 1)) w2 (by rw [blk_cell b1]; rfl) (by rw [blk_cell b1]; rfl) b2 (by rw [blen_pow]; omega) (HT.out.fr hF2 (fun _ _ h => h)))
  have HF2 := hid hF2; have HE2 := hid hE2
  clear b1 b2 b3 b4 hF2 hE2
  go_wp2_with fail
  refine HST.out.mono ?_
  rintro e w3 ⟨rfl, q⟩
  have hF3 : Fr NoB w w3 := HF2.out.trans q (fun _ _ h => h)
  have hE3 : BlkAt w3 w.heap.size (tabRow 0 (.slice none 0 0) (.slice none 0 0) false) 219 := q.blk HE2.out (fun h => h)
  have c0 : w3.cell? ⟨w.heap.size, 0, none⟩ = some (.int .i64 0) := by rw [blk_cell hE3]; rfl
  have g0 : w3.frozen? ⟨w.heap.size, 0, none⟩ = false := blk_frozen hE3 _
  have hsz : (ByteArray.mk (Lib.decDigits (2 ^ (i - 1))).toArray).size = d := by rw [str_size']; exact HDD.out
  have hE4 : BlkAt (w3.setCell ⟨w.heap.size, 0, none⟩ (.int .i64 (d : Int))) w.heap.size (tabRow d (.slice none 0 0) (.slice none 0 0) false) 219 := blk_set hE3 0 _
  have hF4 : Fr NoB w (w3.setCell ⟨w.heap.size, 0, none⟩ (.int .i64 (d : Int))) := Fr.setCell (S := NoB) (p := ⟨w.heap.size, 0, none⟩) hF3 (fun h => absurd h (Nat.lt_irrefl _)) _
  have hX := blk_new (w3.setCell ⟨w.heap.size, 0, none⟩ (.int .i64 (d : Int))) (.cells #[.bool false, .slice none 0 0, .bool false] 70 (0, 0))
  have hF5 : Fr NoB w ((w3.setCell ⟨w.heap.size, 0, none⟩ (.int .i64 (d : Int))).alloc (.cells #[.bool false, .slice none 0 0, .bool false] 70)) := hF4.alloc _
  have hE5 : BlkAt ((w3.setCell ⟨w.heap.size, 0, none⟩ (.int .i64 (d : Int))).alloc (.cells #[.bool false, .slice none 0 0, .bool false] 70)) w.heap.size (tabRow d (.slice none 0 0) (.slice none 0 0) false) 219 := blk_alloc hE4 _
  have hsz4 : (w3.setCell ⟨w.heap.size, 0, none⟩ (.int .i64 (d : Int))).heap.size = w3.heap.size := by simp
  rw [hsz4] at hX
  have hEl : w.heap.size < w3.heap.size := blk_lt hE3
  have HX := hid hX; have HF5 := hid hF5; have HE5 := hid hE5
  clear hE4 hF4 hX hF5 hE5 hE3 hF3 q hsz4
  go_wp2_with fail
  generalize ((w3.setCell ⟨w.heap.size, 0, none⟩ (.int .i64 (d : Int))).alloc (.cells #[.bool false, .slice none 0 0, .bool false] 70)) = w5 at *
  refine (bigSetInt64 w.heap.size 1 (tabRow d (.slice none 0 0) (.slice none 0 0) false) 219 false false 10 w5 HE5.out rfl rfl rfl (by omega)).mono ?_
  rintro e w6 ⟨rfl, v1, b1, b2, b3, b4⟩
  have hF6 : Fr NoB w w6 := HF5.out.trans b4 (fun j hj h => by have h : j = w.heap.size := h; omega)
  have hE6 : BlkAt w6 w.heap.size (tabRow d v1 (.slice none 0 0) false) 219 := b1
  have hX6 : BlkAt w6 w3.heap.size #[.bool false, .slice none 0 0, .bool false] 70 := b4.blk HX.out (by omega)
  have k0 : w6.cell? ⟨w.heap.size, 0, none⟩ = some (.int .i64 (d : Int)) := by rw [blk_cell hE6]; rfl
  have hxl5 : w3.heap.size < w5.heap.size := blk_lt HX.out
  rw [limbs_small (k := 10) (by omega) (by rw [WB_eq]; omega)] at b2
  have HF6 := hid hF6; have HE6 := hid hE6; have HX6 := hid hX6; have B2 := hid b2; have B3 := hid b3
  clear hF6 hE6 hX6 b1 b2 b3 b4
  go_wp2_with fail
  refine (bigSetInt64 w3.heap.size 0 _ 70 false false d w6 HX6.out rfl rfl rfl (by omega)).mono ?_
  rintro e w7 ⟨rfl, vy, b1, b2, b3, b4⟩
  have hF7 : Fr NoB w w7 := HF6.out.trans b4 (fun j hj h => by have h : j = w3.heap.size := h; omega)
  have hE7 : BlkAt w7 w.heap.size (tabRow d v1 (.slice none 0 0) false) 219 := b4.blk HE6.out (by omega)
  have hX7 : BlkAt w7 w3.heap.size #[.bool false, vy, .bool false] 70 := b1
  have hv7 : NatAt w7 v1 [10] := B2.out.fr b4 (fun g hg h => by have h : g = w3.heap.size := h; have := B3.out g hg; omega)
  rw [limbs_small (k := d) (by omega) (by rw [WB_eq]; omega)] at b2
  have hFd : Fr NoB w7 w7.drew := (Fr.refl _ _).drew
  have hxl6 : w3.heap.size < w6.heap.size := blk_lt HX6.out
  have HB := hid (bigExp w.heap.size 1 w.heap.size 1 w3.heap.size 0 (tabRow d v1 (.slice none 0 0) false) 219 false false v1 vy true d w7.drew hE7 rfl rfl rfl
    (by rw [blk_cell (show w7.drew.heap[w.heap.size]? = some (.cells (tabRow d v1 (.slice none 0 0) false) 219 (0, 0)) from hE7)]; rfl)
    (by rw [blk_cell (show w7.drew.heap[w.heap.size]? = some (.cells (tabRow d v1 (.slice none 0 0) false) 219 (0, 0)) from hE7)]; rfl)
    (by rw [blk_cell (show w7.drew.heap[w3.heap.size]? = some (.cells #[.bool false, vy, .bool false] 70 (0, 0)) from hX7)]; rfl)
    (by rw [blk_cell (show w7.drew.heap[w3.heap.size]? = some (.cells #[.bool false, vy, .bool false] 70 (0, 0)) from hX7)]; rfl)
    (hv7.fr hFd (fun _ _ h => h)) (b2.fr hFd (fun _ _ h => h)) ((HT.out.fr hF7 (fun _ _ h => h)).fr hFd (fun _ _ h => h)) d1 (by omega) (.inl ⟨rfl, rfl⟩) (by omega)
    (fun g hg => by have := B3.out g hg; omega) (fun g hg => by have := b3 g hg; omega) (by omega))
  have hE7s : w.heap.size < w7.heap.size := blk_lt hE7
  have HF7 := hid hF7
  clear hF7 hE7 hX7 hv7 b1 b2 b3 b4 hFd
  go_wp2_with fail
  go_region_with (first | (go_at_call 178; refine HB.out.mono ?_; rintro e w8 ⟨rfl, r⟩; have R := hid r; clear r))
  obtain ⟨v8, b1, b2, b3, b4⟩ := R.out
  have hF8 : Fr NoB w w8 := HF7.out.drew.trans b4 (fun j hj h => by have h : j = w.heap.size := h; omega)
  have hE8 : BlkAt w8 w.heap.size (tabRow d v8 (.slice none 0 0) false) 219 := b1
  have hFd : Fr NoB w8 w8.drew := (Fr.refl _ _).drew
  have hsd : w7.drew.heap.size = w7.heap.size := rfl
  have hE7l : w.heap.size < w7.drew.heap.size := hE7s
  have hv8 : ∀ g, natBlk v8 = some g → g ≠ w.heap.size := fun g hg => by have := b3 g hg; omega
  have HN := hid (bigNeg w.heap.size d (10 ^ d) v8 w8.drew hE8 (b2.fr hFd (fun _ _ h => h)) (pow_ne d) (Nat.le_trans (pow_len d (by omega)) (by omega)) hv8)
  have B2' := hid b2; have HF8 := hid hF8; have HV8 := hid hv8
  clear b1 b2 b3 b4 hF8 hE8 hFd hsd hE7l hv8 R
  go_wp2_with fail
  go_region_with (first | (go_at_call 197; refine HN.out.mono ?_; rintro e w9 ⟨rfl, r⟩; have R := hid r; clear r))
  obtain ⟨v9, b1, b2⟩ := R.out
  have N := hid (show TabRes w i (.returned (.pointer (some ⟨w.heap.size, 0, none⟩))) w9 from ⟨w.heap.size, v8, v9, rfl, Nat.le_refl _, by rw [HD.out]; exact b1, by rw [HD.out]; exact B2'.out.fr ((Fr.refl NoB w8).drew.mono (fun _ _ h => h.elim) |>.trans b2 (fun _ _ h => h)) (fun g hg h => HV8.out g hg h), HF8.out.drew.trans b2 (fun j hj h => by have h : j = w.heap.size := h; omega)⟩)
  clear b1 b2 R
  go_wp2_with fail
  go_ret
  exact N.out
end Go.Proofs.YteokhhepnoelhaaGreatDoor

set_option linter.unusedVariables false
set_option linter.unusedSimpArgs false
namespace Go.Proofs.YteokhhepnoelhaaGreatDoor
open Go.RowKit

theorem bigBitLen (D o : Nat) (v : Value) (V : Nat) (w : World) (h1 : w.cell? ⟨D, o + 1, none⟩ = some v) (hv : NatAt w v (limbs V)) :
    Calls Tryz.prog 74 #[.pointer (some ⟨D, o, none⟩)] w fun e w' => e = .returned (.int .i64 (blen V)) ∧ w = w' := by
  have HL := hid (natBitLen v V w hv)
  obtain ⟨A, c, rfl⟩ := hv.shape
  clear hv
  generalize (limbs V).length = n at *
  go_enter Tryz.func74, Tryz.ntmps74
  go_wp2_with (first | (go_at_call 114; go_in))
  refine HL.out.mono ?_
  rintro e w1 ⟨rfl, rfl⟩
  go_wp2_with fail
  go_ret
  exact ⟨rfl, rfl⟩

set_option maxRecDepth 100000 in
set_option maxHeartbeats 2000000 in
theorem numDigits_same (D o : Nat) (v : Value) (V b d : Nat) (w : World) (h1 : w.cell? ⟨D, o + 1, none⟩ = some v) (hv : NatAt w v (limbs V)) (hT : Thr w) (hb : blen V = b) (hb1 : 1 ≤ b) (hb2 : b < 128) (hd : tabDigits b = d) (ht : tabDigits (b + 1) = d) :
    Calls Tryz.prog 132 #[.pointer (some ⟨D, o, none⟩)] w fun e w' => e = .returned (.int .i64 (d : Int)) ∧ Fr NoB w w' := by
  have HB := bigBitLen D o v V w h1 hv
  rw [hb] at HB
  have HB := hid HB
  have HTB := digitsLookup b w hT hb1 (by omega)
  unfold TabRes at HTB
  rw [hd] at HTB
  have HTB := hid HTB
  clear hd
  have HT := hid hT
  have b0 : ((b : Int) == 0) = false := beq_eq_false_iff_ne.2 (by omega)
  have b1 : decide ((b : Int) < 128) = true := decide_eq_true (by omega)
  have b2 : (b : Int) ≤ 128 := by omega
  have b3 : IntKind.i64.wrap ((b : Int) + 1) = (b : Int) + 1 := IntWalk.i64_in _ (by omega)
  have hlt : (b : Int) < 128 := by omega
  clear h1 hv hT hb
  go_enter Tryz.func132, Tryz.ntmps132
  go_wp2_with fail
  refine HB.out.mono ?_
  rintro e w1 ⟨rfl, rfl⟩
  go_wp2_with fail
  refine HTB.out.mono ?_
  rintro e w2 ⟨E, v1, v2, rfl, hEl, hE, hn, hF⟩
  have hFd : Fr NoB w2 w2.drew := (Fr.refl _ _).drew
  have hN := digitsLookup (b + 1) w2.drew ((HT.out.fr hF (fun _ _ h => h)).fr hFd (fun _ _ h => h)) (by omega) (by omega)
  rw [show ((b + 1 : Nat) : Int) = (b : Int) + 1 by omega] at hN
  unfold TabRes at hN
  rw [ht] at hN
  have HN := hid hN
  have e0 : w2.cell? ⟨E, 0, none⟩ = some (.int .i64 (d : Int)) := by rw [blk_cell hE]; rfl
  have e0d : w2.drew.cell? ⟨E, 0, none⟩ = some (.int .i64 (d : Int)) := e0
  have HE := hid hE; have HF := hid hF
  clear hE hn hF hFd hN ht
  go_wp2_with fail
  go_region_with (first | (go_at_call 166; refine HN.out.mono ?_; rintro e w3 ⟨E', v1', v2', rfl, hEl', hE', hn', hF'⟩; have k3 : w3.cell? ⟨E', 0, none⟩ = some (.int .i64 (d : Int)) := (by rw [blk_cell hE']; rfl); have k4 : w3.cell? ⟨E, 0, none⟩ = some (.int .i64 (d : Int)) := hF'.cell' e0d (fun h => h); have HF3 := hid (show Fr NoB w w3 from HF.out.drew.trans hF' (fun _ _ h => h)); clear hE' hn' hF'))
  all_goals
    go_wp2_with fail
    go_ret
    exact ⟨rfl, HF3.out⟩
end Go.Proofs.YteokhhepnoelhaaGreatDoor

set_option linter.unusedVariables false
set_option linter.unusedSimpArgs false
namespace Go.Proofs.YteokhhepnoelhaaGreatDoor
open Go.RowKit

theorem BytesAt.srcB {w : World} {B : Nat} {v : Value} {l : List UInt8} (h : BytesAt w B v l) : Src Tryz.prog 1 100 v l.length (bcells l) w := by
  obtain ⟨g, o, cap, cs, fr, rfl, _, hg, h1, h2, h3, h4⟩ := h
  refine Src.ofSlice (P := Tryz.prog) w Tryz.underlying100 ⟨g, o, none⟩ l.length cap (bcells l) (by rw [bcells_length]; omega) (fun j u hj => ?_) (fun u hu => ?_)
  · rw [bcells_get] at hj
    obtain ⟨b, hb, rfl⟩ := Option.map_eq_some_iff.1 hj
    rw [Addr.add_lit]
    have : w.cell? ⟨g, o + j, none⟩ = cs[o + j]? := by simp [World.cell?, hg]
    rw [this]
    exact h4 j b hb
  · unfold bcells at hu
    obtain ⟨b, _, rfl⟩ := List.mem_map.1 hu
    rfl

set_option maxRecDepth 100000 in
set_option maxHeartbeats 2000000 in
theorem intAppend (C o g : Nat) (v vb : Value) (N : Nat) (l : List UInt8) (w : World) (h0 : w.cell? ⟨C, o, none⟩ = some (.bool false)) (h1 : w.cell? ⟨C, o + 1, none⟩ = some v) (hv : NatAt w v (limbs N)) (hb : blen N ≤ 250) (hT : Thr w) (hbuf : BufAt w g vb l) (hl : l.length ≤ 1000) :
    Calls Tryz.prog 112 #[.pointer (some ⟨C, o, none⟩), vb, .int .i64 10] w (BufRes w g (l ++ Lib.decDigits N)) := by
  have HI := hid (fun (W : World) (hF : Fr NoB w W) => natItoa v N (by omega) W (hv.fr hF (fun _ _ h => h)) (hT.fr hF (fun _ _ h => h)).leaf)
  have HB := hid (BufSt.start hbuf)
  have hnd : (Lib.decDigits N).length ≤ 1000 := by
    rw [Lib.decDigits_length]
    by_cases hN : N = 0
    · subst hN; rw [Lib.nDigits_small (by omega)]; omega
    · have h2 := (blen_bounds hN).2.1
      have h3 : (2 : Nat) ^ blen N ≤ 2 ^ 250 := Nat.pow_le_pow_right (by omega) (by omega)
      have h4 : (2 : Nat) ^ 250 < 10 ^ 100 := by decide +kernel
      have := nDigits_le (k := 100) hN (by omega)
      omega
  have HND := hid hnd
  have HFd : Hid (Fr NoB w w.drew) := hid (Fr.refl _ _).drew
  have hN0 := hid (HI.out w.drew HFd.out)
  clear hv hT hbuf hnd
  go_enter Tryz.func112, Tryz.ntmps112
  go_wp2_with fail
  go_region_law (first
    | (refine step_append_buf (w := w) g (.tmp 11) (.tmp 21) 100 rfl rfl vb _ (Lib.decDigits N) (by simp [Act.eval, Act.put]) H2.out v2 (by simp [Act.eval, Act.put]) HS2.out (by have := HND.out; omega) ?_; intro v3 W3 h3; have H3 := hid h3; clear h3)
    | (go_simp; refine hN0.out.mono ?_; rintro e w2 ⟨v2, rfl, hB2, hF2⟩; have HS2 := hid hB2.srcB; have H2 := hid (HB.out.fr (HFd.out.trans hF2 (fun _ _ h => h))); clear hB2 hF2))
  all_goals
    go_wp2_with fail
    go_ret
    exact ⟨v3, rfl, H3.out⟩

theorem bigAppend (C o g : Nat) (v vb : Value) (N : Nat) (l : List UInt8) (w : World) (h0 : w.cell? ⟨C, o, none⟩ = some (.bool false)) (h1 : w.cell? ⟨C, o + 1, none⟩ = some v) (hv : NatAt w v (limbs N)) (hb : blen N ≤ 250) (hT : Thr w) (hbuf : BufAt w g vb l) (hl : l.length ≤ 1000) :
    Calls Tryz.prog 71 #[.pointer (some ⟨C, o, none⟩), vb, .int .i64 10] w (BufRes w g (l ++ Lib.decDigits N)) := by
  have H := hid (intAppend C o g v vb N l w h0 h1 hv hb hT hbuf hl)
  clear h0 h1 hv hT hbuf
  go_enter Tryz.func71, Tryz.ntmps71
  go_wp2_with fail
  refine H.out.mono ?_
  rintro e W1 ⟨v1, rfl, h1⟩
  have H1 := hid h1
  clear h1
  go_wp2_with fail
  go_ret
  exact ⟨v1, rfl, H1.out⟩

/-- The text of a finite decimal in the forms e, E, g, G. -/
def decText (c : UInt8) (neg : Bool) (V : Nat) (e0 : Int) : List UInt8 :=
  (if neg = true then [45] else []) ++
    (if c = 101 ∨ c = 69 then eText (Lib.decDigits V) c (e0 + (Lib.decDigits V).length - 1)
     else if e0 ≤ 0 ∧ -6 ≤ e0 + ((if V = 0 ∧ e0 < 0 then ((Lib.decDigits V).length : Int) - e0 else (Lib.decDigits V).length) - 1) then
       (if e0 = 0 then Lib.decDigits V
        else if (Lib.decDigits V).length ≤ -e0 then [48, 46] ++ List.replicate (-e0 - (Lib.decDigits V).length).toNat 48 ++ Lib.decDigits V
        else (Lib.decDigits V).take ((Lib.decDigits V).length + e0).toNat ++ [46] ++ (Lib.decDigits V).drop ((Lib.decDigits V).length + e0).toNat)
     else eText (Lib.decDigits V) (if c = 103 then 101 else 69) (e0 + (Lib.decDigits V).length - 1))

theorem buf16 (W : World) : BufAt (W.alloc (.cells #[.int .u8 0, .int .u8 0, .int .u8 0, .int .u8 0, .int .u8 0, .int .u8 0, .int .u8 0, .int .u8 0, .int .u8 0, .int .u8 0, .int .u8 0, .int .u8 0, .int .u8 0, .int .u8 0, .int .u8 0, .int .u8 0] 99)) W.heap.size (.slice (some ⟨W.heap.size, 0, none⟩) 0 16) [] :=
  ⟨16, _, 99, rfl, blk_new W _, by simp, by simp, by unfold maxLen; omega, fun j b hj => by simp at hj⟩
theorem decDigits_first (V : Nat) : ∃ d0, (Lib.decDigits V)[0]? = some d0 := by
  have h := Lib.nDigits_pos V
  rw [← Lib.decDigits_length] at h
  exact ⟨_, List.getElem?_eq_getElem (by omega)⟩
theorem decDigits_len200 {V : Nat} (hb : blen V ≤ 250) : (Lib.decDigits V).length ≤ 100 := by
  rw [Lib.decDigits_length]
  by_cases hN : V = 0
  · subst hN; rw [Lib.nDigits_small (by omega)]; omega
  · have h2 := (blen_bounds hN).2.1
    have h3 : (2 : Nat) ^ blen V ≤ 2 ^ 250 := Nat.pow_le_pow_right (by omega) (by omega)
    have h4 : (2 : Nat) ^ 250 < 10 ^ 100 := by decide +kernel
    exact nDigits_le hN (by omega)

set_option maxRecDepth 100000 in
set_option maxHeartbeats 4000000 in
theorem decAppend_e_false (D g : Nat) (e0 : Int) (v vb : Value) (V : Nat) (w : World) (hD : DecAt w D 0 false e0 false v false) (hv : NatAt w v (limbs V)) (hb : blen V ≤ 250) (hT : Thr w) (hU : TabU w) (hbuf : BufAt w g vb []) (hDg : D ≠ g) (hg : 19 ≤ g)
    (hvg : ∀ k, natBlk v = some k → k ≠ g) (he : -200 ≤ e0) (he' : e0 ≤ 200) :
    Calls Tryz.prog 48 #[.pointer (some ⟨D, 0, none⟩), vb, .int .u8 101] w (BufRes w g (decText 101 false V e0)) := by
  obtain ⟨⟨h0c, h1c, h2c, h3c, h4c, h5c⟩, f0, f1, f2, f3, f4, f5⟩ := hD.cells
  have HD := hid hD; have HV := hid hv; have HT := hid hT; have HU := hid hU; have HDG := hid hDg; have HVG := hid hvg
  have HB := hid (BufSt.start hbuf)
  obtain ⟨capb, rfl, _⟩ := hbuf.shape
  clear hD hv hT hU hbuf h2c h3c h4c h5c f0 f1 f2 f3 f4 f5 hDg hvg
  go_enter Tryz.func48, Tryz.ntmps48
  go_wp2_with fail
  obtain ⟨gk, hB1, hgk, hFk⟩ := HB.out
  have hgkl := hB1.lt
  have hWl := hFk.size
  have HS : Hid (BufAt (w.alloc (.cells #[.int .u8 0, .int .u8 0, .int .u8 0, .int .u8 0, .int .u8 0, .int .u8 0, .int .u8 0, .int .u8 0, .int .u8 0, .int .u8 0, .int .u8 0, .int .u8 0, .int .u8 0, .int .u8 0, .int .u8 0, .int .u8 0] 99)) w.heap.size (.slice (some ⟨w.heap.size, 0, none⟩) 0 16) []) := hid (buf16 w)
  have HB1 : Hid (BufAt (w.alloc (.cells #[.int .u8 0, .int .u8 0, .int .u8 0, .int .u8 0, .int .u8 0, .int .u8 0, .int .u8 0, .int .u8 0, .int .u8 0, .int .u8 0, .int .u8 0, .int .u8 0, .int .u8 0, .int .u8 0, .int .u8 0, .int .u8 0] 99)) gk (.slice (some ⟨g, 0, none⟩) ([] : List UInt8).length capb) ([] : List UInt8)) := hid (hB1.fr ((Fr.refl NoB _).alloc _) (fun h => h))
  have HF1 : Hid (Fr (fun i => i = g) w (w.alloc (.cells #[.int .u8 0, .int .u8 0, .int .u8 0, .int .u8 0, .int .u8 0, .int .u8 0, .int .u8 0, .int .u8 0, .int .u8 0, .int .u8 0, .int .u8 0, .int .u8 0, .int .u8 0, .int .u8 0, .int .u8 0, .int .u8 0] 99))) := hid (hFk.alloc _)
  have hgs : (w.alloc (.cells #[.int .u8 0, .int .u8 0, .int .u8 0, .int .u8 0, .int .u8 0, .int .u8 0, .int .u8 0, .int .u8 0, .int .u8 0, .int .u8 0, .int .u8 0, .int .u8 0, .int .u8 0, .int .u8 0, .int .u8 0, .int .u8 0] 99)).heap.size = w.heap.size + 1 := by simp
  have HGS := hid hgs
  have HGK := hid hgk
  clear hB1 hFk hgs hgk
  generalize (w.alloc (.cells #[.int .u8 0, .int .u8 0, .int .u8 0, .int .u8 0, .int .u8 0, .int .u8 0, .int .u8 0, .int .u8 0, .int .u8 0, .int .u8 0, .int .u8 0, .int .u8 0, .int .u8 0, .int .u8 0, .int .u8 0, .int .u8 0] 99)) = WS at *
  have HFd : Hid (Fr NoB WS WS.drew) := hid (Fr.refl _ _).drew
  have HDs := hid (show DecAt WS.drew D 0 false e0 false v false from (HD.out.fr HF1.out HDG.out).fr HFd.out (fun h => h))
  have HA := hid (bigAppend D 3 w.heap.size v (.slice (some ⟨w.heap.size, 0, none⟩) 0 16) V [] WS.drew (by rw [blk_cell HDs.out]; rfl) (by rw [blk_cell HDs.out]; rfl) ((HV.out.fr HF1.out (fun k hk h => HVG.out k hk h)).fr HFd.out (fun _ _ h => h)) hb ((HT.out.fr HF1.out (fun i hi h => by omega)).fr HFd.out (fun _ _ h => h)) (HS.out.fr HFd.out (fun h => h)) (by simp))
  go_region_with (first | (go_at_call 71; refine HA.out.mono ?_; rintro e W2 ⟨vd, rfl, h2⟩; have H2 := hid h2; clear h2))
  obtain ⟨gd, hD1, hgd, hFd2⟩ := H2.out
  rw [List.nil_append] at hD1
  have hsd : WS.drew.heap.size = WS.heap.size := rfl
  have hDw : D < w.heap.size := blk_lt HD.out
  have hW1 := HF1.out.size
  have hgdk : gd ≠ gk := by have := HGS.out; omega
  have hDgk : D ≠ gk := by have := HGK.out; have := HDG.out; omega
  have h17 : 17 ≠ gk := by have := HGK.out; have := HT.out.size; omega
  have hDec2 : DecAt W2 D 0 false e0 false v false := HDs.out.fr hFd2 (by omega)
  have hB2 : BufAt W2 gk (.slice (some ⟨g, 0, none⟩) ([] : List UInt8).length capb) ([] : List UInt8) := (HB1.out.fr HFd.out (fun h => h)).fr hFd2 (by omega)
  have hFW2 : Fr (fun i => i = g) w W2 := (HF1.out.trans HFd.out (fun _ _ h => h.elim)).trans hFd2 (fun i hi h => by have h : i = w.heap.size := h; omega)
  have hU2 : TabU W2 := HU.out.fr hFW2 (by omega)
  have HB2 := hid hB2; have HF2 := hid hFW2; have HDec2 := hid hDec2; have HD2 := hid hD1
  obtain ⟨d0, hd0⟩ := decDigits_first V
  have HE := hid (fmtE_any D gd gk false e0 v (.slice (some ⟨g, 0, none⟩) ([] : List UInt8).length capb) vd ([] : List UInt8) (Lib.decDigits V) d0 101 W2 hDec2 hB2 hD1 hgdk hDgk hd0 (by simp) (by have := decDigits_len200 hb; omega) (by omega) (by omega) (appOk W2 gk h17 hU2))
  clear hD1 hgd hFd2 hB2 hFW2 hU2 hDec2 hd0 hgdk hDgk h17 hsd hW1 hDw hgkl hWl
  go_wp2_with fail
  refine HE.out.mono ?_
  rintro e W3 ⟨v3, rfl, h3⟩
  have H3 := hid h3
  clear h3
  go_wp2_with fail
  go_ret
  refine ⟨v3, rfl, ?_⟩
  have := BufSt.trans ⟨gk, HB2.out, HGK.out, HF2.out⟩ HB2.out HGK.out H3.out
  simpa [decText] using this

set_option maxRecDepth 100000 in
set_option maxHeartbeats 4000000 in
theorem decAppend_e_true (D g : Nat) (e0 : Int) (v vb : Value) (V : Nat) (w : World) (hD : DecAt w D 0 true e0 false v false) (hv : NatAt w v (limbs V)) (hb : blen V ≤ 250) (hT : Thr w) (hU : TabU w) (hbuf : BufAt w g vb []) (hDg : D ≠ g) (hg : 19 ≤ g)
    (hvg : ∀ k, natBlk v = some k → k ≠ g) (he : -200 ≤ e0) (he' : e0 ≤ 200) :
    Calls Tryz.prog 48 #[.pointer (some ⟨D, 0, none⟩), vb, .int .u8 101] w (BufRes w g (decText 101 true V e0)) := by
  obtain ⟨⟨h0c, h1c, h2c, h3c, h4c, h5c⟩, f0, f1, f2, f3, f4, f5⟩ := hD.cells
  have HD := hid hD; have HV := hid hv; have HT := hid hT; have HU := hid hU; have HDG := hid hDg; have HVG := hid hvg
  have HB := hid (BufSt.start hbuf)
  obtain ⟨capb, rfl, _⟩ := hbuf.shape
  clear hD hv hT hU hbuf h2c h3c h4c h5c f0 f1 f2 f3 f4 f5 hDg hvg
  go_enter Tryz.func48, Tryz.ntmps48
  go_wp2_with (at_builtin; refine wpList_append_buf g (.tmp 15) (.tmp 16) 100 rfl rfl _ _ [45] rfl (HB.out.fr ((Fr.refl NoB _).alloc _)) _ rfl (lit_new _ _ _ rfl) (by simp) ?_; intro v1 W1 h1; have H1 := hid h1; obtain ⟨⟨z0, _, _, _, _, _⟩, _⟩ := (HD.out.fr h1.frame HDG.out).cells; clear h1)
  obtain ⟨gk, hB1, hgk, hFk⟩ := H1.out
  have hgkl := hB1.lt
  have hWl := hFk.size
  have HS : Hid (BufAt (W1.alloc (.cells #[.int .u8 0, .int .u8 0, .int .u8 0, .int .u8 0, .int .u8 0, .int .u8 0, .int .u8 0, .int .u8 0, .int .u8 0, .int .u8 0, .int .u8 0, .int .u8 0, .int .u8 0, .int .u8 0, .int .u8 0, .int .u8 0] 99)) W1.heap.size (.slice (some ⟨W1.heap.size, 0, none⟩) 0 16) []) := hid (buf16 W1)
  have HB1 : Hid (BufAt (W1.alloc (.cells #[.int .u8 0, .int .u8 0, .int .u8 0, .int .u8 0, .int .u8 0, .int .u8 0, .int .u8 0, .int .u8 0, .int .u8 0, .int .u8 0, .int .u8 0, .int .u8 0, .int .u8 0, .int .u8 0, .int .u8 0, .int .u8 0] 99)) gk v1 ([] ++ [45] : List UInt8)) := hid (hB1.fr ((Fr.refl NoB _).alloc _) (fun h => h))
  have HF1 : Hid (Fr (fun i => i = g) w (W1.alloc (.cells #[.int .u8 0, .int .u8 0, .int .u8 0, .int .u8 0, .int .u8 0, .int .u8 0, .int .u8 0, .int .u8 0, .int .u8 0, .int .u8 0, .int .u8 0, .int .u8 0, .int .u8 0, .int .u8 0, .int .u8 0, .int .u8 0] 99))) := hid (hFk.alloc _)
  have hgs : (W1.alloc (.cells #[.int .u8 0, .int .u8 0, .int .u8 0, .int .u8 0, .int .u8 0, .int .u8 0, .int .u8 0, .int .u8 0, .int .u8 0, .int .u8 0, .int .u8 0, .int .u8 0, .int .u8 0, .int .u8 0, .int .u8 0, .int .u8 0] 99)).heap.size = W1.heap.size + 1 := by simp
  have HGS := hid hgs
  have HGK := hid hgk
  clear hB1 hFk hgs hgk
  generalize (W1.alloc (.cells #[.int .u8 0, .int .u8 0, .int .u8 0, .int .u8 0, .int .u8 0, .int .u8 0, .int .u8 0, .int .u8 0, .int .u8 0, .int .u8 0, .int .u8 0, .int .u8 0, .int .u8 0, .int .u8 0, .int .u8 0, .int .u8 0] 99)) = WS at *
  have HFd : Hid (Fr NoB WS WS.drew) := hid (Fr.refl _ _).drew
  have HDs := hid (show DecAt WS.drew D 0 true e0 false v false from (HD.out.fr HF1.out HDG.out).fr HFd.out (fun h => h))
  have HA := hid (bigAppend D 3 W1.heap.size v (.slice (some ⟨W1.heap.size, 0, none⟩) 0 16) V [] WS.drew (by rw [blk_cell HDs.out]; rfl) (by rw [blk_cell HDs.out]; rfl) ((HV.out.fr HF1.out (fun k hk h => HVG.out k hk h)).fr HFd.out (fun _ _ h => h)) hb ((HT.out.fr HF1.out (fun i hi h => by omega)).fr HFd.out (fun _ _ h => h)) (HS.out.fr HFd.out (fun h => h)) (by simp))
  go_region_with (first | (go_at_call 71; refine HA.out.mono ?_; rintro e W2 ⟨vd, rfl, h2⟩; have H2 := hid h2; clear h2))
  obtain ⟨gd, hD1, hgd, hFd2⟩ := H2.out
  rw [List.nil_append] at hD1
  have hsd : WS.drew.heap.size = WS.heap.size := rfl
  have hDw : D < w.heap.size := blk_lt HD.out
  have hW1 := HF1.out.size
  have hgdk : gd ≠ gk := by have := HGS.out; omega
  have hDgk : D ≠ gk := by have := HGK.out; have := HDG.out; omega
  have h17 : 17 ≠ gk := by have := HGK.out; have := HT.out.size; omega
  have hDec2 : DecAt W2 D 0 true e0 false v false := HDs.out.fr hFd2 (by omega)
  have hB2 : BufAt W2 gk v1 ([] ++ [45] : List UInt8) := (HB1.out.fr HFd.out (fun h => h)).fr hFd2 (by omega)
  have hFW2 : Fr (fun i => i = g) w W2 := (HF1.out.trans HFd.out (fun _ _ h => h.elim)).trans hFd2 (fun i hi h => by have h : i = W1.heap.size := h; omega)
  have hU2 : TabU W2 := HU.out.fr hFW2 (by omega)
  have HB2 := hid hB2; have HF2 := hid hFW2; have HDec2 := hid hDec2; have HD2 := hid hD1
  obtain ⟨d0, hd0⟩ := decDigits_first V
  have HE := hid (fmtE_any D gd gk true e0 v v1 vd ([] ++ [45] : List UInt8) (Lib.decDigits V) d0 101 W2 hDec2 hB2 hD1 hgdk hDgk hd0 (by simp) (by have := decDigits_len200 hb; omega) (by omega) (by omega) (appOk W2 gk h17 hU2))
  clear hD1 hgd hFd2 hB2 hFW2 hU2 hDec2 hd0 hgdk hDgk h17 hsd hW1 hDw hgkl hWl
  go_wp2_with fail
  refine HE.out.mono ?_
  rintro e W3 ⟨v3, rfl, h3⟩
  have H3 := hid h3
  clear h3
  go_wp2_with fail
  go_ret
  refine ⟨v3, rfl, ?_⟩
  have := BufSt.trans ⟨gk, HB2.out, HGK.out, HF2.out⟩ HB2.out HGK.out H3.out
  simpa [decText] using this

set_option maxRecDepth 100000 in
set_option maxHeartbeats 4000000 in
theorem decAppend_E_false (D g : Nat) (e0 : Int) (v vb : Value) (V : Nat) (w : World) (hD : DecAt w D 0 false e0 false v false) (hv : NatAt w v (limbs V)) (hb : blen V ≤ 250) (hT : Thr w) (hU : TabU w) (hbuf : BufAt w g vb []) (hDg : D ≠ g) (hg : 19 ≤ g)
    (hvg : ∀ k, natBlk v = some k → k ≠ g) (he : -200 ≤ e0) (he' : e0 ≤ 200) :
    Calls Tryz.prog 48 #[.pointer (some ⟨D, 0, none⟩), vb, .int .u8 69] w (BufRes w g (decText 69 false V e0)) := by
  obtain ⟨⟨h0c, h1c, h2c, h3c, h4c, h5c⟩, f0, f1, f2, f3, f4, f5⟩ := hD.cells
  have HD := hid hD; have HV := hid hv; have HT := hid hT; have HU := hid hU; have HDG := hid hDg; have HVG := hid hvg
  have HB := hid (BufSt.start hbuf)
  obtain ⟨capb, rfl, _⟩ := hbuf.shape
  clear hD hv hT hU hbuf h2c h3c h4c h5c f0 f1 f2 f3 f4 f5 hDg hvg
  go_enter Tryz.func48, Tryz.ntmps48
  go_wp2_with fail
  obtain ⟨gk, hB1, hgk, hFk⟩ := HB.out
  have hgkl := hB1.lt
  have hWl := hFk.size
  have HS : Hid (BufAt (w.alloc (.cells #[.int .u8 0, .int .u8 0, .int .u8 0, .int .u8 0, .int .u8 0, .int .u8 0, .int .u8 0, .int .u8 0, .int .u8 0, .int .u8 0, .int .u8 0, .int .u8 0, .int .u8 0, .int .u8 0, .int .u8 0, .int .u8 0] 99)) w.heap.size (.slice (some ⟨w.heap.size, 0, none⟩) 0 16) []) := hid (buf16 w)
  have HB1 : Hid (BufAt (w.alloc (.cells #[.int .u8 0, .int .u8 0, .int .u8 0, .int .u8 0, .int .u8 0, .int .u8 0, .int .u8 0, .int .u8 0, .int .u8 0, .int .u8 0, .int .u8 0, .int .u8 0, .int .u8 0, .int .u8 0, .int .u8 0, .int .u8 0] 99)) gk (.slice (some ⟨g, 0, none⟩) ([] : List UInt8).length capb) ([] : List UInt8)) := hid (hB1.fr ((Fr.refl NoB _).alloc _) (fun h => h))
  have HF1 : Hid (Fr (fun i => i = g) w (w.alloc (.cells #[.int .u8 0, .int .u8 0, .int .u8 0, .int .u8 0, .int .u8 0, .int .u8 0, .int .u8 0, .int .u8 0, .int .u8 0, .int .u8 0, .int .u8 0, .int .u8 0, .int .u8 0, .int .u8 0, .int .u8 0, .int .u8 0] 99))) := hid (hFk.alloc _)
  have hgs : (w.alloc (.cells #[.int .u8 0, .int .u8 0, .int .u8 0, .int .u8 0, .int .u8 0, .int .u8 0, .int .u8 0, .int .u8 0, .int .u8 0, .int .u8 0, .int .u8 0, .int .u8 0, .int .u8 0, .int .u8 0, .int .u8 0, .int .u8 0] 99)).heap.size = w.heap.size + 1 := by simp
  have HGS := hid hgs
  have HGK := hid hgk
  clear hB1 hFk hgs hgk
  generalize (w.alloc (.cells #[.int .u8 0, .int .u8 0, .int .u8 0, .int .u8 0, .int .u8 0, .int .u8 0, .int .u8 0, .int .u8 0, .int .u8 0, .int .u8 0, .int .u8 0, .int .u8 0, .int .u8 0, .int .u8 0, .int .u8 0, .int .u8 0] 99)) = WS at *
  have HFd : Hid (Fr NoB WS WS.drew) := hid (Fr.refl _ _).drew
  have HDs := hid (show DecAt WS.drew D 0 false e0 false v false from (HD.out.fr HF1.out HDG.out).fr HFd.out (fun h => h))
  have HA := hid (bigAppend D 3 w.heap.size v (.slice (some ⟨w.heap.size, 0, none⟩) 0 16) V [] WS.drew (by rw [blk_cell HDs.out]; rfl) (by rw [blk_cell HDs.out]; rfl) ((HV.out.fr HF1.out (fun k hk h => HVG.out k hk h)).fr HFd.out (fun _ _ h => h)) hb ((HT.out.fr HF1.out (fun i hi h => by omega)).fr HFd.out (fun _ _ h => h)) (HS.out.fr HFd.out (fun h => h)) (by simp))
  go_region_with (first | (go_at_call 71; refine HA.out.mono ?_; rintro e W2 ⟨vd, rfl, h2⟩; have H2 := hid h2; clear h2))
  obtain ⟨gd, hD1, hgd, hFd2⟩ := H2.out
  rw [List.nil_append] at hD1
  have hsd : WS.drew.heap.size = WS.heap.size := rfl
  have hDw : D < w.heap.size := blk_lt HD.out
  have hW1 := HF1.out.size
  have hgdk : gd ≠ gk := by have := HGS.out; omega
  have hDgk : D ≠ gk := by have := HGK.out; have := HDG.out; omega
  have h17 : 17 ≠ gk := by have := HGK.out; have := HT.out.size; omega
  have hDec2 : DecAt W2 D 0 false e0 false v false := HDs.out.fr hFd2 (by omega)
  have hB2 : BufAt W2 gk (.slice (some ⟨g, 0, none⟩) ([] : List UInt8).length capb) ([] : List UInt8) := (HB1.out.fr HFd.out (fun h => h)).fr hFd2 (by omega)
  have hFW2 : Fr (fun i => i = g) w W2 := (HF1.out.trans HFd.out (fun _ _ h => h.elim)).trans hFd2 (fun i hi h => by have h : i = w.heap.size := h; omega)
  have hU2 : TabU W2 := HU.out.fr hFW2 (by omega)
  have HB2 := hid hB2; have HF2 := hid hFW2; have HDec2 := hid hDec2; have HD2 := hid hD1
  obtain ⟨d0, hd0⟩ := decDigits_first V
  have HE := hid (fmtE_any D gd gk false e0 v (.slice (some ⟨g, 0, none⟩) ([] : List UInt8).length capb) vd ([] : List UInt8) (Lib.decDigits V) d0 69 W2 hDec2 hB2 hD1 hgdk hDgk hd0 (by simp) (by have := decDigits_len200 hb; omega) (by omega) (by omega) (appOk W2 gk h17 hU2))
  clear hD1 hgd hFd2 hB2 hFW2 hU2 hDec2 hd0 hgdk hDgk h17 hsd hW1 hDw hgkl hWl
  go_wp2_with fail
  refine HE.out.mono ?_
  rintro e W3 ⟨v3, rfl, h3⟩
  have H3 := hid h3
  clear h3
  go_wp2_with fail
  go_ret
  refine ⟨v3, rfl, ?_⟩
  have := BufSt.trans ⟨gk, HB2.out, HGK.out, HF2.out⟩ HB2.out HGK.out H3.out
  simpa [decText] using this

set_option maxRecDepth 100000 in
set_option maxHeartbeats 4000000 in
theorem decAppend_E_true (D g : Nat) (e0 : Int) (v vb : Value) (V : Nat) (w : World) (hD : DecAt w D 0 true e0 false v false) (hv : NatAt w v (limbs V)) (hb : blen V ≤ 250) (hT : Thr w) (hU : TabU w) (hbuf : BufAt w g vb []) (hDg : D ≠ g) (hg : 19 ≤ g)
    (hvg : ∀ k, natBlk v = some k → k ≠ g) (he : -200 ≤ e0) (he' : e0 ≤ 200) :
    Calls Tryz.prog 48 #[.pointer (some ⟨D, 0, none⟩), vb, .int .u8 69] w (BufRes w g (decText 69 true V e0)) := by
  obtain ⟨⟨h0c, h1c, h2c, h3c, h4c, h5c⟩, f0, f1, f2, f3, f4, f5⟩ := hD.cells
  have HD := hid hD; have HV := hid hv; have HT := hid hT; have HU := hid hU; have HDG := hid hDg; have HVG := hid hvg
  have HB := hid (BufSt.start hbuf)
  obtain ⟨capb, rfl, _⟩ := hbuf.shape
  clear hD hv hT hU hbuf h2c h3c h4c h5c f0 f1 f2 f3 f4 f5 hDg hvg
  go_enter Tryz.func48, Tryz.ntmps48
  go_wp2_with (at_builtin; refine wpList_append_buf g (.tmp 15) (.tmp 16) 100 rfl rfl _ _ [45] rfl (HB.out.fr ((Fr.refl NoB _).alloc _)) _ rfl (lit_new _ _ _ rfl) (by simp) ?_; intro v1 W1 h1; have H1 := hid h1; obtain ⟨⟨z0, _, _, _, _, _⟩, _⟩ := (HD.out.fr h1.frame HDG.out).cells; clear h1)
  obtain ⟨gk, hB1, hgk, hFk⟩ := H1.out
  have hgkl := hB1.lt
  have hWl := hFk.size
  have HS : Hid (BufAt (W1.alloc (.cells #[.int .u8 0, .int .u8 0, .int .u8 0, .int .u8 0, .int .u8 0, .int .u8 0, .int .u8 0, .int .u8 0, .int .u8 0, .int .u8 0, .int .u8 0, .int .u8 0, .int .u8 0, .int .u8 0, .int .u8 0, .int .u8 0] 99)) W1.heap.size (.slice (some ⟨W1.heap.size, 0, none⟩) 0 16) []) := hid (buf16 W1)
  have HB1 : Hid (BufAt (W1.alloc (.cells #[.int .u8 0, .int .u8 0, .int .u8 0, .int .u8 0, .int .u8 0, .int .u8 0, .int .u8 0, .int .u8 0, .int .u8 0, .int .u8 0, .int .u8 0, .int .u8 0, .int .u8 0, .int .u8 0, .int .u8 0, .int .u8 0] 99)) gk v1 ([] ++ [45] : List UInt8)) := hid (hB1.fr ((Fr.refl NoB _).alloc _) (fun h => h))
  have HF1 : Hid (Fr (fun i => i = g) w (W1.alloc (.cells #[.int .u8 0, .int .u8 0, .int .u8 0, .int .u8 0, .int .u8 0, .int .u8 0, .int .u8 0, .int .u8 0, .int .u8 0, .int .u8 0, .int .u8 0, .int .u8 0, .int .u8 0, .int .u8 0, .int .u8 0, .int .u8 0] 99))) := hid (hFk.alloc _)
  have hgs : (W1.alloc (.cells #[.int .u8 0, .int .u8 0, .int .u8 0, .int .u8 0, .int .u8 0, .int .u8 0, .int .u8 0, .int .u8 0, .int .u8 0, .int .u8 0, .int .u8 0, .int .u8 0, .int .u8 0, .int .u8 0, .int .u8 0, .int .u8 0] 99)).heap.size = W1.heap.size + 1 := by simp
  have HGS := hid hgs
  have HGK := hid hgk
  clear hB1 hFk hgs hgk
  generalize (W1.alloc (.cells #[.int .u8 0, .int .u8 0, .int .u8 0, .int .u8 0, .int .u8 0, .int .u8 0, .int .u8 0, .int .u8 0, .int .u8 0, .int .u8 0, .int .u8 0, .int .u8 0, .int .u8 0, .int .u8 0, .int .u8 0, .int .u8 0] 99)) = WS at *
  have HFd : Hid (Fr NoB WS WS.drew) := hid (Fr.refl _ _).drew
  have HDs := hid (show DecAt WS.drew D 0 true e0 false v false from (HD.out.fr HF1.out HDG.out).fr HFd.out (fun h => h))
  have HA := hid (bigAppend D 3 W1.heap.size v (.slice (some ⟨W1.heap.size, 0, none⟩) 0 16) V [] WS.drew (by rw [blk_cell HDs.out]; rfl) (by rw [blk_cell HDs.out]; rfl) ((HV.out.fr HF1.out (fun k hk h => HVG.out k hk h)).fr HFd.out (fun _ _ h => h)) hb ((HT.out.fr HF1.out (fun i hi h => by omega)).fr HFd.out (fun _ _ h => h)) (HS.out.fr HFd.out (fun h => h)) (by simp))
  go_region_with (first | (go_at_call 71; refine HA.out.mono ?_; rintro e W2 ⟨vd, rfl, h2⟩; have H2 := hid h2; clear h2))
  obtain ⟨gd, hD1, hgd, hFd2⟩ := H2.out
  rw [List.nil_append] at hD1
  have hsd : WS.drew.heap.size = WS.heap.size := rfl
  have hDw : D < w.heap.size := blk_lt HD.out
  have hW1 := HF1.out.size
  have hgdk : gd ≠ gk := by have := HGS.out; omega
  have hDgk : D ≠ gk := by have := HGK.out; have := HDG.out; omega
  have h17 : 17 ≠ gk := by have := HGK.out; have := HT.out.size; omega
  have hDec2 : DecAt W2 D 0 true e0 false v false := HDs.out.fr hFd2 (by omega)
  have hB2 : BufAt W2 gk v1 ([] ++ [45] : List UInt8) := (HB1.out.fr HFd.out (fun h => h)).fr hFd2 (by omega)
  have hFW2 : Fr (fun i => i = g) w W2 := (HF1.out.trans HFd.out (fun _ _ h => h.elim)).trans hFd2 (fun i hi h => by have h : i = W1.heap.size := h; omega)
  have hU2 : TabU W2 := HU.out.fr hFW2 (by omega)
  have HB2 := hid hB2; have HF2 := hid hFW2; have HDec2 := hid hDec2; have HD2 := hid hD1
  obtain ⟨d0, hd0⟩ := decDigits_first V
  have HE := hid (fmtE_any D gd gk true e0 v v1 vd ([] ++ [45] : List UInt8) (Lib.decDigits V) d0 69 W2 hDec2 hB2 hD1 hgdk hDgk hd0 (by simp) (by have := decDigits_len200 hb; omega) (by omega) (by omega) (appOk W2 gk h17 hU2))
  clear hD1 hgd hFd2 hB2 hFW2 hU2 hDec2 hd0 hgdk hDgk h17 hsd hW1 hDw hgkl hWl
  go_wp2_with fail
  refine HE.out.mono ?_
  rintro e W3 ⟨v3, rfl, h3⟩
  have H3 := hid h3
  clear h3
  go_wp2_with fail
  go_ret
  refine ⟨v3, rfl, ?_⟩
  have := BufSt.trans ⟨gk, HB2.out, HGK.out, HF2.out⟩ HB2.out HGK.out H3.out
  simpa [decText] using this

end Go.Proofs.YteokhhepnoelhaaGreatDoor

set_option linter.unusedVariables false
set_option linter.unusedSimpArgs false
namespace Go.Proofs.YteokhhepnoelhaaGreatDoor
open Go.RowKit

def fText (ds : List UInt8) (e0 : Int) : List UInt8 :=
  if e0 = 0 then ds
  else if (ds.length : Int) ≤ -e0 then [48, 46] ++ List.replicate (-e0 - ds.length).toNat 48 ++ ds
  else ds.take (ds.length + e0).toNat ++ [46] ++ ds.drop (ds.length + e0).toNat
theorem fmtF_any (D gd g : Nat) (neg : Bool) (e0 : Int) (v vb vd : Value) (l ds : List UInt8) (w : World) (hD : DecAt w D 0 neg e0 false v false) (hb : BufAt w g vb l) (hd : BufAt w gd vd ds) (hgd : gd ≠ g) (hDg : D ≠ g) (hl : l.length ≤ 10) (hn : ds.length ≤ 200) (he : e0 ≤ 0) (he' : -300 ≤ e0) :
    Calls Tryz.prog 73 #[vb, .pointer (some ⟨D, 0, none⟩), vd] w (BufRes w g (l ++ fText ds e0)) := by
  unfold fText
  by_cases h0 : e0 = 0
  · subst h0
    rw [if_pos rfl]
    exact fmtF_zero D gd g neg v vb vd l ds w hD hb hd hgd hDg hl hn
  · rw [if_neg h0]
    by_cases h1 : (ds.length : Int) ≤ -e0
    · rw [if_pos h1, ← List.append_assoc, ← List.append_assoc]
      exact fmtF_left D gd g neg e0 (-e0 - ds.length).toNat v vb vd l ds w hD hb hd hgd hDg hl hn (by omega) he' (by omega)
    · rw [if_neg h1, ← List.append_assoc, ← List.append_assoc]
      exact fmtF_mid D gd g neg e0 (ds.length + e0).toNat v vb vd l ds w hD hb hd hgd hDg hl hn (by omega) he' (by omega) (by omega)

theorem decText_gF {c : UInt8} (hc : c = 103 ∨ c = 71) (neg : Bool) (V : Nat) (e0 : Int) (h : e0 ≤ 0 ∧ -6 ≤ e0 + ((if V = 0 ∧ e0 < 0 then ((Lib.decDigits V).length : Int) - e0 else (Lib.decDigits V).length) - 1)) :
    decText c neg V e0 = (if neg = true then [45] else []) ++ fText (Lib.decDigits V) e0 := by
  unfold decText fText
  have hn : ¬ (c = 101 ∨ c = 69) := by rcases hc with rfl | rfl <;> decide
  rw [if_neg hn, if_pos h]
theorem decText_gE {c : UInt8} (hc : c = 103 ∨ c = 71) (neg : Bool) (V : Nat) (e0 : Int) (h : ¬ (e0 ≤ 0 ∧ -6 ≤ e0 + ((if V = 0 ∧ e0 < 0 then ((Lib.decDigits V).length : Int) - e0 else (Lib.decDigits V).length) - 1))) :
    decText c neg V e0 = (if neg = true then [45] else []) ++ eText (Lib.decDigits V) (if c = 103 then 101 else 69) (e0 + (Lib.decDigits V).length - 1) := by
  unfold decText
  have hn : ¬ (c = 101 ∨ c = 69) := by rcases hc with rfl | rfl <;> decide
  rw [if_neg hn, if_neg h]
theorem decDigits_nought {V : Nat} (h : V = 0) : (Lib.decDigits V).length = 1 := by subst h; rw [Lib.decDigits_length, Lib.nDigits_small (by omega)]
theorem blen_nought {V : Nat} : blen V = 0 ↔ V = 0 := by
  constructor
  · intro h
    by_cases h0 : V = 0
    · exact h0
    · have := (blen_bounds h0).2.2; omega
  · rintro rfl; rfl

set_option maxRecDepth 100000 in
set_option maxHeartbeats 4000000 in
theorem decAppend_g_false (D g : Nat) (e0 : Int) (v vb : Value) (V : Nat) (w : World) (hD : DecAt w D 0 false e0 false v false) (hv : NatAt w v (limbs V)) (hb : blen V ≤ 250) (hT : Thr w) (hU : TabU w) (hbuf : BufAt w g vb []) (hDg : D ≠ g) (hg : 19 ≤ g)
    (hvg : ∀ k, natBlk v = some k → k ≠ g) (he : -200 ≤ e0) (he' : e0 ≤ 200) :
    Calls Tryz.prog 48 #[.pointer (some ⟨D, 0, none⟩), vb, .int .u8 103] w (BufRes w g (decText 103 false V e0)) := by
  obtain ⟨⟨h0c, h1c, h2c, h3c, h4c, h5c⟩, f0, f1, f2, f3, f4, f5⟩ := hD.cells
  have HD := hid hD; have HV := hid hv; have HT := hid hT; have HU := hid hU; have HDG := hid hDg; have HVG := hid hvg
  have HB := hid (BufSt.start hbuf)
  obtain ⟨capb, rfl, _⟩ := hbuf.shape
  clear hD hv hT hU hbuf h2c h3c h4c h5c f0 f1 f2 f3 f4 f5 hDg hvg
  go_enter Tryz.func48, Tryz.ntmps48
  go_wp2_with fail
  obtain ⟨gk, hB1, hgk, hFk⟩ := HB.out
  have hgkl := hB1.lt
  have hWl := hFk.size
  have HS : Hid (BufAt (w.alloc (.cells #[.int .u8 0, .int .u8 0, .int .u8 0, .int .u8 0, .int .u8 0, .int .u8 0, .int .u8 0, .int .u8 0, .int .u8 0, .int .u8 0, .int .u8 0, .int .u8 0, .int .u8 0, .int .u8 0, .int .u8 0, .int .u8 0] 99)) w.heap.size (.slice (some ⟨w.heap.size, 0, none⟩) 0 16) []) := hid (buf16 w)
  have HB1 : Hid (BufAt (w.alloc (.cells #[.int .u8 0, .int .u8 0, .int .u8 0, .int .u8 0, .int .u8 0, .int .u8 0, .int .u8 0, .int .u8 0, .int .u8 0, .int .u8 0, .int .u8 0, .int .u8 0, .int .u8 0, .int .u8 0, .int .u8 0, .int .u8 0] 99)) gk (.slice (some ⟨g, 0, none⟩) ([] : List UInt8).length capb) ([] : List UInt8)) := hid (hB1.fr ((Fr.refl NoB _).alloc _) (fun h => h))
  have HF1 : Hid (Fr (fun i => i = g) w (w.alloc (.cells #[.int .u8 0, .int .u8 0, .int .u8 0, .int .u8 0, .int .u8 0, .int .u8 0, .int .u8 0, .int .u8 0, .int .u8 0, .int .u8 0, .int .u8 0, .int .u8 0, .int .u8 0, .int .u8 0, .int .u8 0, .int .u8 0] 99))) := hid (hFk.alloc _)
  have hgs : (w.alloc (.cells #[.int .u8 0, .int .u8 0, .int .u8 0, .int .u8 0, .int .u8 0, .int .u8 0, .int .u8 0, .int .u8 0, .int .u8 0, .int .u8 0, .int .u8 0, .int .u8 0, .int .u8 0, .int .u8 0, .int .u8 0, .int .u8 0] 99)).heap.size = w.heap.size + 1 := by simp
  have HGS := hid hgs
  have HGK := hid hgk
  clear hB1 hFk hgs hgk
  generalize (w.alloc (.cells #[.int .u8 0, .int .u8 0, .int .u8 0, .int .u8 0, .int .u8 0, .int .u8 0, .int .u8 0, .int .u8 0, .int .u8 0, .int .u8 0, .int .u8 0, .int .u8 0, .int .u8 0, .int .u8 0, .int .u8 0, .int .u8 0] 99)) = WS at *
  have HFd : Hid (Fr NoB WS WS.drew) := hid (Fr.refl _ _).drew
  have HDs := hid (show DecAt WS.drew D 0 false e0 false v false from (HD.out.fr HF1.out HDG.out).fr HFd.out (fun h => h))
  have HA := hid (bigAppend D 3 w.heap.size v (.slice (some ⟨w.heap.size, 0, none⟩) 0 16) V [] WS.drew (by rw [blk_cell HDs.out]; rfl) (by rw [blk_cell HDs.out]; rfl) ((HV.out.fr HF1.out (fun k hk h => HVG.out k hk h)).fr HFd.out (fun _ _ h => h)) hb ((HT.out.fr HF1.out (fun i hi h => by omega)).fr HFd.out (fun _ _ h => h)) (HS.out.fr HFd.out (fun h => h)) (by simp))
  go_region_with (first | (go_at_call 71; refine HA.out.mono ?_; rintro e W2 ⟨vd, rfl, h2⟩; have H2 := hid h2; clear h2))
  obtain ⟨gd, hD1, hgd, hFd2⟩ := H2.out
  rw [List.nil_append] at hD1
  have hsd : WS.drew.heap.size = WS.heap.size := rfl
  have hDw : D < w.heap.size := blk_lt HD.out
  have hW1 := HF1.out.size
  have hgdk : gd ≠ gk := by have := HGS.out; omega
  have hDgk : D ≠ gk := by have := HGK.out; have := HDG.out; omega
  have h17 : 17 ≠ gk := by have := HGK.out; have := HT.out.size; omega
  have hDec2 : DecAt W2 D 0 false e0 false v false := HDs.out.fr hFd2 (by omega)
  have hB2 : BufAt W2 gk (.slice (some ⟨g, 0, none⟩) ([] : List UInt8).length capb) ([] : List UInt8) := (HB1.out.fr HFd.out (fun h => h)).fr hFd2 (by omega)
  have hFW2 : Fr (fun i => i = g) w W2 := (HF1.out.trans HFd.out (fun _ _ h => h.elim)).trans hFd2 (fun i hi h => by have h : i = w.heap.size := h; omega)
  have hU2 : TabU W2 := HU.out.fr hFW2 (by omega)
  have HB2 := hid hB2; have HF2 := hid hFW2; have HDec2 := hid hDec2; have HD2 := hid hD1
  obtain ⟨d0, hd0⟩ := decDigits_first V
  have HFF : e0 ≤ 0 → Hid (Calls Tryz.prog 73 #[(.slice (some ⟨g, 0, none⟩) ([] : List UInt8).length capb), .pointer (some ⟨D, 0, none⟩), vd] W2 (BufRes W2 gk (([] : List UInt8) ++ fText (Lib.decDigits V) e0))) := fun h => hid (fmtF_any D gd gk false e0 v (.slice (some ⟨g, 0, none⟩) ([] : List UInt8).length capb) vd ([] : List UInt8) (Lib.decDigits V) W2 hDec2 hB2 hD1 hgdk hDgk (by simp) (by have := decDigits_len200 hb; omega) h (by omega))
  have HEE : Hid (Calls Tryz.prog 72 #[(.slice (some ⟨g, 0, none⟩) ([] : List UInt8).length capb), .int .u8 ((101 : UInt8).toNat : Int), .pointer (some ⟨D, 0, none⟩), vd] W2 (BufRes W2 gk (([] : List UInt8) ++ eText (Lib.decDigits V) 101 (e0 + (Lib.decDigits V).length - 1)))) := hid (fmtE_any D gd gk false e0 v (.slice (some ⟨g, 0, none⟩) ([] : List UInt8).length capb) vd ([] : List UInt8) (Lib.decDigits V) d0 101 W2 hDec2 hB2 hD1 hgdk hDgk hd0 (by simp) (by have := decDigits_len200 hb; omega) (by omega) (by omega) (appOk W2 gk h17 hU2))
  have HBL : Hid (Calls Tryz.prog 74 #[.pointer (some ⟨D, 3, none⟩)] W2 fun e w' => e = .returned (.int .i64 (blen V)) ∧ W2 = w') := hid (bigBitLen D 3 v V W2 (by rw [blk_cell hDec2]; rfl) (HV.out.fr hFW2 (fun k hk h => HVG.out k hk h)))
  have HTF := fun h => hid (decText_gF (c := 103) (by decide) false V e0 h)
  have HTE := fun h => hid (decText_gE (c := 103) (by decide) false V e0 h)
  obtain ⟨capd, hvd, _⟩ := hD1.shape
  have k2 : W2.cell? ⟨D, 2, none⟩ = some (.int .i32 e0) := by rw [blk_cell hDec2]; rfl
  have hlen1 : 1 ≤ (Lib.decDigits V).length := by have := (List.getElem?_eq_some_iff.1 hd0).1; omega
  have hlen2 := decDigits_len200 hb
  have hz1 := @decDigits_nought V
  have hz2 := @blen_nought V
  clear hD1 hgd hFd2 hB2 hFW2 hU2 hDec2 hd0 hgdk hDgk h17 hsd hW1 hDw hgkl hWl
  subst hvd
  generalize (Lib.decDigits V).length = n at *
  generalize blen V = bl at *
  by_cases hA : V = 0 ∧ e0 < 0
  · have hn1 := hz1 hA.1
    have hbl := hz2.2 hA.1
    have HTX := HTF ⟨by omega, by rw [if_pos hA]; omega⟩
    have HE := HFF (by omega)
    have hbz : ((bl : Int) == 0) = true := by simp [hbl]
    have hx1 : e0 < 0 := hA.2
    have hx2 : (-6 : Int) ≤ e0 + ((n : Int) + -e0 - 1) := by omega
    have hx3 : e0 ≤ 0 := by omega
    have hx4 : (-2000 : Int) ≤ e0 := by omega
    clear hA hn1 hbl HTF HTE HFF HEE hz1 hz2
    go_wp2_with (go_at_call 74; refine HBL.out.mono ?_; rintro e W2' ⟨rfl, rfl⟩)
    refine HE.out.mono ?_
    rintro e W3 ⟨v3, rfl, h3⟩
    have H3 := hid h3
    clear h3
    go_wp2_with fail
    go_ret
    refine ⟨v3, rfl, ?_⟩
    rw [HTX.out]
    have := BufSt.trans ⟨gk, HB2.out, HGK.out, HF2.out⟩ HB2.out HGK.out H3.out
    simpa using this
  · have HX : Hid (∃ b : Bool, ((bl : Int) == 0) = b ∧ (b = true → ¬ e0 < 0)) := hid ⟨_, rfl, fun h h1 => hA ⟨hz2.1 (by simpa using h), h1⟩⟩
    obtain ⟨b, hbz, hbe⟩ := HX.out
    by_cases hB : e0 ≤ 0 ∧ -6 ≤ e0 + ((n : Int) - 1)
    · have HTX := HTF ⟨hB.1, by rw [if_neg hA]; exact hB.2⟩
      have HE := HFF hB.1
      obtain ⟨hx3, hx2⟩ := hB
      clear hA HTF HTE HFF HEE hz1 hz2 HX
      cases b
      · clear hbe
        go_wp2_with (go_at_call 74; refine HBL.out.mono ?_; rintro e W2' ⟨rfl, rfl⟩)
        refine HE.out.mono ?_
        rintro e W3 ⟨v3, rfl, h3⟩
        have H3 := hid h3
        clear h3
        go_wp2_with fail
        go_ret
        refine ⟨v3, rfl, ?_⟩
        rw [HTX.out]
        have := BufSt.trans ⟨gk, HB2.out, HGK.out, HF2.out⟩ HB2.out HGK.out H3.out
        simpa using this
      · have hx1 : ¬ e0 < 0 := hbe rfl
        have hx4 : (-2000 : Int) ≤ e0 := by omega
        clear hbe
        go_wp2_with (go_at_call 74; refine HBL.out.mono ?_; rintro e W2' ⟨rfl, rfl⟩)
        refine HE.out.mono ?_
        rintro e W3 ⟨v3, rfl, h3⟩
        have H3 := hid h3
        clear h3
        go_wp2_with fail
        go_ret
        refine ⟨v3, rfl, ?_⟩
        rw [HTX.out]
        have := BufSt.trans ⟨gk, HB2.out, HGK.out, HF2.out⟩ HB2.out HGK.out H3.out
        simpa using this
    · have HTX := HTE (by rw [if_neg hA]; exact hB)
      have HE := HEE
      have hx4 : (-2000 : Int) ≤ e0 := by omega
      have hcase : (¬ e0 ≤ 0) ∨ (e0 ≤ 0 ∧ ¬ (-6 : Int) ≤ e0 + ((n : Int) - 1)) := by omega
      clear hA HTF HTE HFF HEE hz1 hz2 HX hB
      rcases hcase with hx3 | ⟨hx3, hx2⟩
      · cases b
        · clear hbe
          go_wp2_with (go_at_call 74; refine HBL.out.mono ?_; rintro e W2' ⟨rfl, rfl⟩)
          refine HE.out.mono ?_
          rintro e W3 ⟨v3, rfl, h3⟩
          have H3 := hid h3
          clear h3
          go_wp2_with fail
          go_ret
          refine ⟨v3, rfl, ?_⟩
          rw [HTX.out]
          have := BufSt.trans ⟨gk, HB2.out, HGK.out, HF2.out⟩ HB2.out HGK.out H3.out
          simpa using this
        · have hx1 : ¬ e0 < 0 := hbe rfl
          clear hbe
          go_wp2_with (go_at_call 74; refine HBL.out.mono ?_; rintro e W2' ⟨rfl, rfl⟩)
          refine HE.out.mono ?_
          rintro e W3 ⟨v3, rfl, h3⟩
          have H3 := hid h3
          clear h3
          go_wp2_with fail
          go_ret
          refine ⟨v3, rfl, ?_⟩
          rw [HTX.out]
          have := BufSt.trans ⟨gk, HB2.out, HGK.out, HF2.out⟩ HB2.out HGK.out H3.out
          simpa using this
      · cases b
        · clear hbe
          go_wp2_with (go_at_call 74; refine HBL.out.mono ?_; rintro e W2' ⟨rfl, rfl⟩)
          refine HE.out.mono ?_
          rintro e W3 ⟨v3, rfl, h3⟩
          have H3 := hid h3
          clear h3
          go_wp2_with fail
          go_ret
          refine ⟨v3, rfl, ?_⟩
          rw [HTX.out]
          have := BufSt.trans ⟨gk, HB2.out, HGK.out, HF2.out⟩ HB2.out HGK.out H3.out
          simpa using this
        · exfalso; have := hbe rfl; omega

set_option maxRecDepth 100000 in
set_option maxHeartbeats 4000000 in
theorem decAppend_g_true (D g : Nat) (e0 : Int) (v vb : Value) (V : Nat) (w : World) (hD : DecAt w D 0 true e0 false v false) (hv : NatAt w v (limbs V)) (hb : blen V ≤ 250) (hT : Thr w) (hU : TabU w) (hbuf : BufAt w g vb []) (hDg : D ≠ g) (hg : 19 ≤ g)
    (hvg : ∀ k, natBlk v = some k → k ≠ g) (he : -200 ≤ e0) (he' : e0 ≤ 200) :
    Calls Tryz.prog 48 #[.pointer (some ⟨D, 0, none⟩), vb, .int .u8 103] w (BufRes w g (decText 103 true V e0)) := by
  obtain ⟨⟨h0c, h1c, h2c, h3c, h4c, h5c⟩, f0, f1, f2, f3, f4, f5⟩ := hD.cells
  have HD := hid hD; have HV := hid hv; have HT := hid hT; have HU := hid hU; have HDG := hid hDg; have HVG := hid hvg
  have HB := hid (BufSt.start hbuf)
  obtain ⟨capb, rfl, _⟩ := hbuf.shape
  clear hD hv hT hU hbuf h2c h3c h4c h5c f0 f1 f2 f3 f4 f5 hDg hvg
  go_enter Tryz.func48, Tryz.ntmps48
  go_wp2_with (at_builtin; refine wpList_append_buf g (.tmp 15) (.tmp 16) 100 rfl rfl _ _ [45] rfl (HB.out.fr ((Fr.refl NoB _).alloc _)) _ rfl (lit_new _ _ _ rfl) (by simp) ?_; intro v1 W1 h1; have H1 := hid h1; obtain ⟨⟨z0, _, _, _, _, _⟩, _⟩ := (HD.out.fr h1.frame HDG.out).cells; clear h1)
  obtain ⟨gk, hB1, hgk, hFk⟩ := H1.out
  have hgkl := hB1.lt
  have hWl := hFk.size
  have HS : Hid (BufAt (W1.alloc (.cells #[.int .u8 0, .int .u8 0, .int .u8 0, .int .u8 0, .int .u8 0, .int .u8 0, .int .u8 0, .int .u8 0, .int .u8 0, .int .u8 0, .int .u8 0, .int .u8 0, .int .u8 0, .int .u8 0, .int .u8 0, .int .u8 0] 99)) W1.heap.size (.slice (some ⟨W1.heap.size, 0, none⟩) 0 16) []) := hid (buf16 W1)
  have HB1 : Hid (BufAt (W1.alloc (.cells #[.int .u8 0, .int .u8 0, .int .u8 0, .int .u8 0, .int .u8 0, .int .u8 0, .int .u8 0, .int .u8 0, .int .u8 0, .int .u8 0, .int .u8 0, .int .u8 0, .int .u8 0, .int .u8 0, .int .u8 0, .int .u8 0] 99)) gk v1 ([] ++ [45] : List UInt8)) := hid (hB1.fr ((Fr.refl NoB _).alloc _) (fun h => h))
  have HF1 : Hid (Fr (fun i => i = g) w (W1.alloc (.cells #[.int .u8 0, .int .u8 0, .int .u8 0, .int .u8 0, .int .u8 0, .int .u8 0, .int .u8 0, .int .u8 0, .int .u8 0, .int .u8 0, .int .u8 0, .int .u8 0, .int .u8 0, .int .u8 0, .int .u8 0, .int .u8 0] 99))) := hid (hFk.alloc _)
  have hgs : (W1.alloc (.cells #[.int .u8 0, .int .u8 0, .int .u8 0, .int .u8 0, .int .u8 0, .int .u8 0, .int .u8 0, .int .u8 0, .int .u8 0, .int .u8 0, .int .u8 0, .int .u8 0, .int .u8 0, .int .u8 0, .int .u8 0, .int .u8 0] 99)).heap.size = W1.heap.size + 1 := by simp
  have HGS := hid hgs
  have HGK := hid hgk
  clear hB1 hFk hgs hgk
  generalize (W1.alloc (.cells #[.int .u8 0, .int .u8 0, .int .u8 0, .int .u8 0, .int .u8 0, .int .u8 0, .int .u8 0, .int .u8 0, .int .u8 0, .int .u8 0, .int .u8 0, .int .u8 0, .int .u8 0, .int .u8 0, .int .u8 0, .int .u8 0] 99)) = WS at *
  have HFd : Hid (Fr NoB WS WS.drew) := hid (Fr.refl _ _).drew
  have HDs := hid (show DecAt WS.drew D 0 true e0 false v false from (HD.out.fr HF1.out HDG.out).fr HFd.out (fun h => h))
  have HA := hid (bigAppend D 3 W1.heap.size v (.slice (some ⟨W1.heap.size, 0, none⟩) 0 16) V [] WS.drew (by rw [blk_cell HDs.out]; rfl) (by rw [blk_cell HDs.out]; rfl) ((HV.out.fr HF1.out (fun k hk h => HVG.out k hk h)).fr HFd.out (fun _ _ h => h)) hb ((HT.out.fr HF1.out (fun i hi h => by omega)).fr HFd.out (fun _ _ h => h)) (HS.out.fr HFd.out (fun h => h)) (by simp))
  go_region_with (first | (go_at_call 71; refine HA.out.mono ?_; rintro e W2 ⟨vd, rfl, h2⟩; have H2 := hid h2; clear h2))
  obtain ⟨gd, hD1, hgd, hFd2⟩ := H2.out
  rw [List.nil_append] at hD1
  have hsd : WS.drew.heap.size = WS.heap.size := rfl
  have hDw : D < w.heap.size := blk_lt HD.out
  have hW1 := HF1.out.size
  have hgdk : gd ≠ gk := by have := HGS.out; omega
  have hDgk : D ≠ gk := by have := HGK.out; have := HDG.out; omega
  have h17 : 17 ≠ gk := by have := HGK.out; have := HT.out.size; omega
  have hDec2 : DecAt W2 D 0 true e0 false v false := HDs.out.fr hFd2 (by omega)
  have hB2 : BufAt W2 gk v1 ([] ++ [45] : List UInt8) := (HB1.out.fr HFd.out (fun h => h)).fr hFd2 (by omega)
  have hFW2 : Fr (fun i => i = g) w W2 := (HF1.out.trans HFd.out (fun _ _ h => h.elim)).trans hFd2 (fun i hi h => by have h : i = W1.heap.size := h; omega)
  have hU2 : TabU W2 := HU.out.fr hFW2 (by omega)
  have HB2 := hid hB2; have HF2 := hid hFW2; have HDec2 := hid hDec2; have HD2 := hid hD1
  obtain ⟨d0, hd0⟩ := decDigits_first V
  have HFF : e0 ≤ 0 → Hid (Calls Tryz.prog 73 #[v1, .pointer (some ⟨D, 0, none⟩), vd] W2 (BufRes W2 gk (([] ++ [45] : List UInt8) ++ fText (Lib.decDigits V) e0))) := fun h => hid (fmtF_any D gd gk true e0 v v1 vd ([] ++ [45] : List UInt8) (Lib.decDigits V) W2 hDec2 hB2 hD1 hgdk hDgk (by simp) (by have := decDigits_len200 hb; omega) h (by omega))
  have HEE : Hid (Calls Tryz.prog 72 #[v1, .int .u8 ((101 : UInt8).toNat : Int), .pointer (some ⟨D, 0, none⟩), vd] W2 (BufRes W2 gk (([] ++ [45] : List UInt8) ++ eText (Lib.decDigits V) 101 (e0 + (Lib.decDigits V).length - 1)))) := hid (fmtE_any D gd gk true e0 v v1 vd ([] ++ [45] : List UInt8) (Lib.decDigits V) d0 101 W2 hDec2 hB2 hD1 hgdk hDgk hd0 (by simp) (by have := decDigits_len200 hb; omega) (by omega) (by omega) (appOk W2 gk h17 hU2))
  have HBL : Hid (Calls Tryz.prog 74 #[.pointer (some ⟨D, 3, none⟩)] W2 fun e w' => e = .returned (.int .i64 (blen V)) ∧ W2 = w') := hid (bigBitLen D 3 v V W2 (by rw [blk_cell hDec2]; rfl) (HV.out.fr hFW2 (fun k hk h => HVG.out k hk h)))
  have HTF := fun h => hid (decText_gF (c := 103) (by decide) true V e0 h)
  have HTE := fun h => hid (decText_gE (c := 103) (by decide) true V e0 h)
  obtain ⟨capd, hvd, _⟩ := hD1.shape
  have k2 : W2.cell? ⟨D, 2, none⟩ = some (.int .i32 e0) := by rw [blk_cell hDec2]; rfl
  have hlen1 : 1 ≤ (Lib.decDigits V).length := by have := (List.getElem?_eq_some_iff.1 hd0).1; omega
  have hlen2 := decDigits_len200 hb
  have hz1 := @decDigits_nought V
  have hz2 := @blen_nought V
  clear hD1 hgd hFd2 hB2 hFW2 hU2 hDec2 hd0 hgdk hDgk h17 hsd hW1 hDw hgkl hWl
  subst hvd
  generalize (Lib.decDigits V).length = n at *
  generalize blen V = bl at *
  by_cases hA : V = 0 ∧ e0 < 0
  · have hn1 := hz1 hA.1
    have hbl := hz2.2 hA.1
    have HTX := HTF ⟨by omega, by rw [if_pos hA]; omega⟩
    have HE := HFF (by omega)
    have hbz : ((bl : Int) == 0) = true := by simp [hbl]
    have hx1 : e0 < 0 := hA.2
    have hx2 : (-6 : Int) ≤ e0 + ((n : Int) + -e0 - 1) := by omega
    have hx3 : e0 ≤ 0 := by omega
    have hx4 : (-2000 : Int) ≤ e0 := by omega
    clear hA hn1 hbl HTF HTE HFF HEE hz1 hz2
    go_wp2_with (go_at_call 74; refine HBL.out.mono ?_; rintro e W2' ⟨rfl, rfl⟩)
    refine HE.out.mono ?_
    rintro e W3 ⟨v3, rfl, h3⟩
    have H3 := hid h3
    clear h3
    go_wp2_with fail
    go_ret
    refine ⟨v3, rfl, ?_⟩
    rw [HTX.out]
    have := BufSt.trans ⟨gk, HB2.out, HGK.out, HF2.out⟩ HB2.out HGK.out H3.out
    simpa using this
  · have HX : Hid (∃ b : Bool, ((bl : Int) == 0) = b ∧ (b = true → ¬ e0 < 0)) := hid ⟨_, rfl, fun h h1 => hA ⟨hz2.1 (by simpa using h), h1⟩⟩
    obtain ⟨b, hbz, hbe⟩ := HX.out
    by_cases hB : e0 ≤ 0 ∧ -6 ≤ e0 + ((n : Int) - 1)
    · have HTX := HTF ⟨hB.1, by rw [if_neg hA]; exact hB.2⟩
      have HE := HFF hB.1
      obtain ⟨hx3, hx2⟩ := hB
      clear hA HTF HTE HFF HEE hz1 hz2 HX
      cases b
      · clear hbe
        go_wp2_with (go_at_call 74; refine HBL.out.mono ?_; rintro e W2' ⟨rfl, rfl⟩)
        refine HE.out.mono ?_
        rintro e W3 ⟨v3, rfl, h3⟩
        have H3 := hid h3
        clear h3
        go_wp2_with fail
        go_ret
        refine ⟨v3, rfl, ?_⟩
        rw [HTX.out]
        have := BufSt.trans ⟨gk, HB2.out, HGK.out, HF2.out⟩ HB2.out HGK.out H3.out
        simpa using this
      · have hx1 : ¬ e0 < 0 := hbe rfl
        have hx4 : (-2000 : Int) ≤ e0 := by omega
        clear hbe
        go_wp2_with (go_at_call 74; refine HBL.out.mono ?_; rintro e W2' ⟨rfl, rfl⟩)
        refine HE.out.mono ?_
        rintro e W3 ⟨v3, rfl, h3⟩
        have H3 := hid h3
        clear h3
        go_wp2_with fail
        go_ret
        refine ⟨v3, rfl, ?_⟩
        rw [HTX.out]
        have := BufSt.trans ⟨gk, HB2.out, HGK.out, HF2.out⟩ HB2.out HGK.out H3.out
        simpa using this
    · have HTX := HTE (by rw [if_neg hA]; exact hB)
      have HE := HEE
      have hx4 : (-2000 : Int) ≤ e0 := by omega
      have hcase : (¬ e0 ≤ 0) ∨ (e0 ≤ 0 ∧ ¬ (-6 : Int) ≤ e0 + ((n : Int) - 1)) := by omega
      clear hA HTF HTE HFF HEE hz1 hz2 HX hB
      rcases hcase with hx3 | ⟨hx3, hx2⟩
      · cases b
        · clear hbe
          go_wp2_with (go_at_call 74; refine HBL.out.mono ?_; rintro e W2' ⟨rfl, rfl⟩)
          refine HE.out.mono ?_
          rintro e W3 ⟨v3, rfl, h3⟩
          have H3 := hid h3
          clear h3
          go_wp2_with fail
          go_ret
          refine ⟨v3, rfl, ?_⟩
          rw [HTX.out]
          have := BufSt.trans ⟨gk, HB2.out, HGK.out, HF2.out⟩ HB2.out HGK.out H3.out
          simpa using this
        · have hx1 : ¬ e0 < 0 := hbe rfl
          clear hbe
          go_wp2_with (go_at_call 74; refine HBL.out.mono ?_; rintro e W2' ⟨rfl, rfl⟩)
          refine HE.out.mono ?_
          rintro e W3 ⟨v3, rfl, h3⟩
          have H3 := hid h3
          clear h3
          go_wp2_with fail
          go_ret
          refine ⟨v3, rfl, ?_⟩
          rw [HTX.out]
          have := BufSt.trans ⟨gk, HB2.out, HGK.out, HF2.out⟩ HB2.out HGK.out H3.out
          simpa using this
      · cases b
        · clear hbe
          go_wp2_with (go_at_call 74; refine HBL.out.mono ?_; rintro e W2' ⟨rfl, rfl⟩)
          refine HE.out.mono ?_
          rintro e W3 ⟨v3, rfl, h3⟩
          have H3 := hid h3
          clear h3
          go_wp2_with fail
          go_ret
          refine ⟨v3, rfl, ?_⟩
          rw [HTX.out]
          have := BufSt.trans ⟨gk, HB2.out, HGK.out, HF2.out⟩ HB2.out HGK.out H3.out
          simpa using this
        · exfalso; have := hbe rfl; omega

set_option maxRecDepth 100000 in
set_option maxHeartbeats 4000000 in
theorem decAppend_G_false (D g : Nat) (e0 : Int) (v vb : Value) (V : Nat) (w : World) (hD : DecAt w D 0 false e0 false v false) (hv : NatAt w v (limbs V)) (hb : blen V ≤ 250) (hT : Thr w) (hU : TabU w) (hbuf : BufAt w g vb []) (hDg : D ≠ g) (hg : 19 ≤ g)
    (hvg : ∀ k, natBlk v = some k → k ≠ g) (he : -200 ≤ e0) (he' : e0 ≤ 200) :
    Calls Tryz.prog 48 #[.pointer (some ⟨D, 0, none⟩), vb, .int .u8 71] w (BufRes w g (decText 71 false V e0)) := by
  obtain ⟨⟨h0c, h1c, h2c, h3c, h4c, h5c⟩, f0, f1, f2, f3, f4, f5⟩ := hD.cells
  have HD := hid hD; have HV := hid hv; have HT := hid hT; have HU := hid hU; have HDG := hid hDg; have HVG := hid hvg
  have HB := hid (BufSt.start hbuf)
  obtain ⟨capb, rfl, _⟩ := hbuf.shape
  clear hD hv hT hU hbuf h2c h3c h4c h5c f0 f1 f2 f3 f4 f5 hDg hvg
  go_enter Tryz.func48, Tryz.ntmps48
  go_wp2_with fail
  obtain ⟨gk, hB1, hgk, hFk⟩ := HB.out
  have hgkl := hB1.lt
  have hWl := hFk.size
  have HS : Hid (BufAt (w.alloc (.cells #[.int .u8 0, .int .u8 0, .int .u8 0, .int .u8 0, .int .u8 0, .int .u8 0, .int .u8 0, .int .u8 0, .int .u8 0, .int .u8 0, .int .u8 0, .int .u8 0, .int .u8 0, .int .u8 0, .int .u8 0, .int .u8 0] 99)) w.heap.size (.slice (some ⟨w.heap.size, 0, none⟩) 0 16) []) := hid (buf16 w)
  have HB1 : Hid (BufAt (w.alloc (.cells #[.int .u8 0, .int .u8 0, .int .u8 0, .int .u8 0, .int .u8 0, .int .u8 0, .int .u8 0, .int .u8 0, .int .u8 0, .int .u8 0, .int .u8 0, .int .u8 0, .int .u8 0, .int .u8 0, .int .u8 0, .int .u8 0] 99)) gk (.slice (some ⟨g, 0, none⟩) ([] : List UInt8).length capb) ([] : List UInt8)) := hid (hB1.fr ((Fr.refl NoB _).alloc _) (fun h => h))
  have HF1 : Hid (Fr (fun i => i = g) w (w.alloc (.cells #[.int .u8 0, .int .u8 0, .int .u8 0, .int .u8 0, .int .u8 0, .int .u8 0, .int .u8 0, .int .u8 0, .int .u8 0, .int .u8 0, .int .u8 0, .int .u8 0, .int .u8 0, .int .u8 0, .int .u8 0, .int .u8 0] 99))) := hid (hFk.alloc _)
  have hgs : (w.alloc (.cells #[.int .u8 0, .int .u8 0, .int .u8 0, .int .u8 0, .int .u8 0, .int .u8 0, .int .u8 0, .int .u8 0, .int .u8 0, .int .u8 0, .int .u8 0, .int .u8 0, .int .u8 0, .int .u8 0, .int .u8 0, .int .u8 0] 99)).heap.size = w.heap.size + 1 := by simp
  have HGS := hid hgs
  have HGK := hid hgk
  clear hB1 hFk hgs hgk
  generalize (w.alloc (.cells #[.int .u8 0, .int .u8 0, .int .u8 0, .int .u8 0, .int .u8 0, .int .u8 0, .int .u8 0, .int .u8 0, .int .u8 0, .int .u8 0, .int .u8 0, .int .u8 0, .int .u8 0, .int .u8 0, .int .u8 0, .int .u8 0] 99)) = WS at *
  have HFd : Hid (Fr NoB WS WS.drew) := hid (Fr.refl _ _).drew
  have HDs := hid (show DecAt WS.drew D 0 false e0 false v false from (HD.out.fr HF1.out HDG.out).fr HFd.out (fun h => h))
  have HA := hid (bigAppend D 3 w.heap.size v (.slice (some ⟨w.heap.size, 0, none⟩) 0 16) V [] WS.drew (by rw [blk_cell HDs.out]; rfl) (by rw [blk_cell HDs.out]; rfl) ((HV.out.fr HF1.out (fun k hk h => HVG.out k hk h)).fr HFd.out (fun _ _ h => h)) hb ((HT.out.fr HF1.out (fun i hi h => by omega)).fr HFd.out (fun _ _ h => h)) (HS.out.fr HFd.out (fun h => h)) (by simp))
  go_region_with (first | (go_at_call 71; refine HA.out.mono ?_; rintro e W2 ⟨vd, rfl, h2⟩; have H2 := hid h2; clear h2))
  obtain ⟨gd, hD1, hgd, hFd2⟩ := H2.out
  rw [List.nil_append] at hD1
  have hsd : WS.drew.heap.size = WS.heap.size := rfl
  have hDw : D < w.heap.size := blk_lt HD.out
  have hW1 := HF1.out.size
  have hgdk : gd ≠ gk := by have := HGS.out; omega
  have hDgk : D ≠ gk := by have := HGK.out; have := HDG.out; omega
  have h17 : 17 ≠ gk := by have := HGK.out; have := HT.out.size; omega
  have hDec2 : DecAt W2 D 0 false e0 false v false := HDs.out.fr hFd2 (by omega)
  have hB2 : BufAt W2 gk (.slice (some ⟨g, 0, none⟩) ([] : List UInt8).length capb) ([] : List UInt8) := (HB1.out.fr HFd.out (fun h => h)).fr hFd2 (by omega)
  have hFW2 : Fr (fun i => i = g) w W2 := (HF1.out.trans HFd.out (fun _ _ h => h.elim)).trans hFd2 (fun i hi h => by have h : i = w.heap.size := h; omega)
  have hU2 : TabU W2 := HU.out.fr hFW2 (by omega)
  have HB2 := hid hB2; have HF2 := hid hFW2; have HDec2 := hid hDec2; have HD2 := hid hD1
  obtain ⟨d0, hd0⟩ := decDigits_first V
  have HFF : e0 ≤ 0 → Hid (Calls Tryz.prog 73 #[(.slice (some ⟨g, 0, none⟩) ([] : List UInt8).length capb), .pointer (some ⟨D, 0, none⟩), vd] W2 (BufRes W2 gk (([] : List UInt8) ++ fText (Lib.decDigits V) e0))) := fun h => hid (fmtF_any D gd gk false e0 v (.slice (some ⟨g, 0, none⟩) ([] : List UInt8).length capb) vd ([] : List UInt8) (Lib.decDigits V) W2 hDec2 hB2 hD1 hgdk hDgk (by simp) (by have := decDigits_len200 hb; omega) h (by omega))
  have HEE : Hid (Calls Tryz.prog 72 #[(.slice (some ⟨g, 0, none⟩) ([] : List UInt8).length capb), .int .u8 ((69 : UInt8).toNat : Int), .pointer (some ⟨D, 0, none⟩), vd] W2 (BufRes W2 gk (([] : List UInt8) ++ eText (Lib.decDigits V) 69 (e0 + (Lib.decDigits V).length - 1)))) := hid (fmtE_any D gd gk false e0 v (.slice (some ⟨g, 0, none⟩) ([] : List UInt8).length capb) vd ([] : List UInt8) (Lib.decDigits V) d0 69 W2 hDec2 hB2 hD1 hgdk hDgk hd0 (by simp) (by have := decDigits_len200 hb; omega) (by omega) (by omega) (appOk W2 gk h17 hU2))
  have HBL : Hid (Calls Tryz.prog 74 #[.pointer (some ⟨D, 3, none⟩)] W2 fun e w' => e = .returned (.int .i64 (blen V)) ∧ W2 = w') := hid (bigBitLen D 3 v V W2 (by rw [blk_cell hDec2]; rfl) (HV.out.fr hFW2 (fun k hk h => HVG.out k hk h)))
  have HTF := fun h => hid (decText_gF (c := 71) (by decide) false V e0 h)
  have HTE := fun h => hid (decText_gE (c := 71) (by decide) false V e0 h)
  obtain ⟨capd, hvd, _⟩ := hD1.shape
  have k2 : W2.cell? ⟨D, 2, none⟩ = some (.int .i32 e0) := by rw [blk_cell hDec2]; rfl
  have hlen1 : 1 ≤ (Lib.decDigits V).length := by have := (List.getElem?_eq_some_iff.1 hd0).1; omega
  have hlen2 := decDigits_len200 hb
  have hz1 := @decDigits_nought V
  have hz2 := @blen_nought V
  clear hD1 hgd hFd2 hB2 hFW2 hU2 hDec2 hd0 hgdk hDgk h17 hsd hW1 hDw hgkl hWl
  subst hvd
  generalize (Lib.decDigits V).length = n at *
  generalize blen V = bl at *
  by_cases hA : V = 0 ∧ e0 < 0
  · have hn1 := hz1 hA.1
    have hbl := hz2.2 hA.1
    have HTX := HTF ⟨by omega, by rw [if_pos hA]; omega⟩
    have HE := HFF (by omega)
    have hbz : ((bl : Int) == 0) = true := by simp [hbl]
    have hx1 : e0 < 0 := hA.2
    have hx2 : (-6 : Int) ≤ e0 + ((n : Int) + -e0 - 1) := by omega
    have hx3 : e0 ≤ 0 := by omega
    have hx4 : (-2000 : Int) ≤ e0 := by omega
    clear hA hn1 hbl HTF HTE HFF HEE hz1 hz2
    go_wp2_with (go_at_call 74; refine HBL.out.mono ?_; rintro e W2' ⟨rfl, rfl⟩)
    refine HE.out.mono ?_
    rintro e W3 ⟨v3, rfl, h3⟩
    have H3 := hid h3
    clear h3
    go_wp2_with fail
    go_ret
    refine ⟨v3, rfl, ?_⟩
    rw [HTX.out]
    have := BufSt.trans ⟨gk, HB2.out, HGK.out, HF2.out⟩ HB2.out HGK.out H3.out
    simpa using this
  · have HX : Hid (∃ b : Bool, ((bl : Int) == 0) = b ∧ (b = true → ¬ e0 < 0)) := hid ⟨_, rfl, fun h h1 => hA ⟨hz2.1 (by simpa using h), h1⟩⟩
    obtain ⟨b, hbz, hbe⟩ := HX.out
    by_cases hB : e0 ≤ 0 ∧ -6 ≤ e0 + ((n : Int) - 1)
    · have HTX := HTF ⟨hB.1, by rw [if_neg hA]; exact hB.2⟩
      have HE := HFF hB.1
      obtain ⟨hx3, hx2⟩ := hB
      clear hA HTF HTE HFF HEE hz1 hz2 HX
      cases b
      · clear hbe
        go_wp2_with (go_at_call 74; refine HBL.out.mono ?_; rintro e W2' ⟨rfl, rfl⟩)
        refine HE.out.mono ?_
        rintro e W3 ⟨v3, rfl, h3⟩
        have H3 := hid h3
        clear h3
        go_wp2_with fail
        go_ret
        refine ⟨v3, rfl, ?_⟩
        rw [HTX.out]
        have := BufSt.trans ⟨gk, HB2.out, HGK.out, HF2.out⟩ HB2.out HGK.out H3.out
        simpa using this
      · have hx1 : ¬ e0 < 0 := hbe rfl
        have hx4 : (-2000 : Int) ≤ e0 := by omega
        clear hbe
        go_wp2_with (go_at_call 74; refine HBL.out.mono ?_; rintro e W2' ⟨rfl, rfl⟩)
        refine HE.out.mono ?_
        rintro e W3 ⟨v3, rfl, h3⟩
        have H3 := hid h3
        clear h3
        go_wp2_with fail
        go_ret
        refine ⟨v3, rfl, ?_⟩
        rw [HTX.out]
        have := BufSt.trans ⟨gk, HB2.out, HGK.out, HF2.out⟩ HB2.out HGK.out H3.out
        simpa using this
    · have HTX := HTE (by rw [if_neg hA]; exact hB)
      have HE := HEE
      have hx4 : (-2000 : Int) ≤ e0 := by omega
      have hcase : (¬ e0 ≤ 0) ∨ (e0 ≤ 0 ∧ ¬ (-6 : Int) ≤ e0 + ((n : Int) - 1)) := by omega
      clear hA HTF HTE HFF HEE hz1 hz2 HX hB
      rcases hcase with hx3 | ⟨hx3, hx2⟩
      · cases b
        · clear hbe
          go_wp2_with (go_at_call 74; refine HBL.out.mono ?_; rintro e W2' ⟨rfl, rfl⟩)
          refine HE.out.mono ?_
          rintro e W3 ⟨v3, rfl, h3⟩
          have H3 := hid h3
          clear h3
          go_wp2_with fail
          go_ret
          refine ⟨v3, rfl, ?_⟩
          rw [HTX.out]
          have := BufSt.trans ⟨gk, HB2.out, HGK.out, HF2.out⟩ HB2.out HGK.out H3.out
          simpa using this
        · have hx1 : ¬ e0 < 0 := hbe rfl
          clear hbe
          go_wp2_with (go_at_call 74; refine HBL.out.mono ?_; rintro e W2' ⟨rfl, rfl⟩)
          refine HE.out.mono ?_
          rintro e W3 ⟨v3, rfl, h3⟩
          have H3 := hid h3
          clear h3
          go_wp2_with fail
          go_ret
          refine ⟨v3, rfl, ?_⟩
          rw [HTX.out]
          have := BufSt.trans ⟨gk, HB2.out, HGK.out, HF2.out⟩ HB2.out HGK.out H3.out
          simpa using this
      · cases b
        · clear hbe
          go_wp2_with (go_at_call 74; refine HBL.out.mono ?_; rintro e W2' ⟨rfl, rfl⟩)
          refine HE.out.mono ?_
          rintro e W3 ⟨v3, rfl, h3⟩
          have H3 := hid h3
          clear h3
          go_wp2_with fail
          go_ret
          refine ⟨v3, rfl, ?_⟩
          rw [HTX.out]
          have := BufSt.trans ⟨gk, HB2.out, HGK.out, HF2.out⟩ HB2.out HGK.out H3.out
          simpa using this
        · exfalso; have := hbe rfl; omega

set_option maxRecDepth 100000 in
set_option maxHeartbeats 4000000 in
theorem decAppend_G_true (D g : Nat) (e0 : Int) (v vb : Value) (V : Nat) (w : World) (hD : DecAt w D 0 true e0 false v false) (hv : NatAt w v (limbs V)) (hb : blen V ≤ 250) (hT : Thr w) (hU : TabU w) (hbuf : BufAt w g vb []) (hDg : D ≠ g) (hg : 19 ≤ g)
    (hvg : ∀ k, natBlk v = some k → k ≠ g) (he : -200 ≤ e0) (he' : e0 ≤ 200) :
    Calls Tryz.prog 48 #[.pointer (some ⟨D, 0, none⟩), vb, .int .u8 71] w (BufRes w g (decText 71 true V e0)) := by
  obtain ⟨⟨h0c, h1c, h2c, h3c, h4c, h5c⟩, f0, f1, f2, f3, f4, f5⟩ := hD.cells
  have HD := hid hD; have HV := hid hv; have HT := hid hT; have HU := hid hU; have HDG := hid hDg; have HVG := hid hvg
  have HB := hid (BufSt.start hbuf)
  obtain ⟨capb, rfl, _⟩ := hbuf.shape
  clear hD hv hT hU hbuf h2c h3c h4c h5c f0 f1 f2 f3 f4 f5 hDg hvg
  go_enter Tryz.func48, Tryz.ntmps48
  go_wp2_with (at_builtin; refine wpList_append_buf g (.tmp 15) (.tmp 16) 100 rfl rfl _ _ [45] rfl (HB.out.fr ((Fr.refl NoB _).alloc _)) _ rfl (lit_new _ _ _ rfl) (by simp) ?_; intro v1 W1 h1; have H1 := hid h1; obtain ⟨⟨z0, _, _, _, _, _⟩, _⟩ := (HD.out.fr h1.frame HDG.out).cells; clear h1)
  obtain ⟨gk, hB1, hgk, hFk⟩ := H1.out
  have hgkl := hB1.lt
  have hWl := hFk.size
  have HS : Hid (BufAt (W1.alloc (.cells #[.int .u8 0, .int .u8 0, .int .u8 0, .int .u8 0, .int .u8 0, .int .u8 0, .int .u8 0, .int .u8 0, .int .u8 0, .int .u8 0, .int .u8 0, .int .u8 0, .int .u8 0, .int .u8 0, .int .u8 0, .int .u8 0] 99)) W1.heap.size (.slice (some ⟨W1.heap.size, 0, none⟩) 0 16) []) := hid (buf16 W1)
  have HB1 : Hid (BufAt (W1.alloc (.cells #[.int .u8 0, .int .u8 0, .int .u8 0, .int .u8 0, .int .u8 0, .int .u8 0, .int .u8 0, .int .u8 0, .int .u8 0, .int .u8 0, .int .u8 0, .int .u8 0, .int .u8 0, .int .u8 0, .int .u8 0, .int .u8 0] 99)) gk v1 ([] ++ [45] : List UInt8)) := hid (hB1.fr ((Fr.refl NoB _).alloc _) (fun h => h))
  have HF1 : Hid (Fr (fun i => i = g) w (W1.alloc (.cells #[.int .u8 0, .int .u8 0, .int .u8 0, .int .u8 0, .int .u8 0, .int .u8 0, .int .u8 0, .int .u8 0, .int .u8 0, .int .u8 0, .int .u8 0, .int .u8 0, .int .u8 0, .int .u8 0, .int .u8 0, .int .u8 0] 99))) := hid (hFk.alloc _)
  have hgs : (W1.alloc (.cells #[.int .u8 0, .int .u8 0, .int .u8 0, .int .u8 0, .int .u8 0, .int .u8 0, .int .u8 0, .int .u8 0, .int .u8 0, .int .u8 0, .int .u8 0, .int .u8 0, .int .u8 0, .int .u8 0, .int .u8 0, .int .u8 0] 99)).heap.size = W1.heap.size + 1 := by simp
  have HGS := hid hgs
  have HGK := hid hgk
  clear hB1 hFk hgs hgk
  generalize (W1.alloc (.cells #[.int .u8 0, .int .u8 0, .int .u8 0, .int .u8 0, .int .u8 0, .int .u8 0, .int .u8 0, .int .u8 0, .int .u8 0, .int .u8 0, .int .u8 0, .int .u8 0, .int .u8 0, .int .u8 0, .int .u8 0, .int .u8 0] 99)) = WS at *
  have HFd : Hid (Fr NoB WS WS.drew) := hid (Fr.refl _ _).drew
  have HDs := hid (show DecAt WS.drew D 0 true e0 false v false from (HD.out.fr HF1.out HDG.out).fr HFd.out (fun h => h))
  have HA := hid (bigAppend D 3 W1.heap.size v (.slice (some ⟨W1.heap.size, 0, none⟩) 0 16) V [] WS.drew (by rw [blk_cell HDs.out]; rfl) (by rw [blk_cell HDs.out]; rfl) ((HV.out.fr HF1.out (fun k hk h => HVG.out k hk h)).fr HFd.out (fun _ _ h => h)) hb ((HT.out.fr HF1.out (fun i hi h => by omega)).fr HFd.out (fun _ _ h => h)) (HS.out.fr HFd.out (fun h => h)) (by simp))
  go_region_with (first | (go_at_call 71; refine HA.out.mono ?_; rintro e W2 ⟨vd, rfl, h2⟩; have H2 := hid h2; clear h2))
  obtain ⟨gd, hD1, hgd, hFd2⟩ := H2.out
  rw [List.nil_append] at hD1
  have hsd : WS.drew.heap.size = WS.heap.size := rfl
  have hDw : D < w.heap.size := blk_lt HD.out
  have hW1 := HF1.out.size
  have hgdk : gd ≠ gk := by have := HGS.out; omega
  have hDgk : D ≠ gk := by have := HGK.out; have := HDG.out; omega
  have h17 : 17 ≠ gk := by have := HGK.out; have := HT.out.size; omega
  have hDec2 : DecAt W2 D 0 true e0 false v false := HDs.out.fr hFd2 (by omega)
  have hB2 : BufAt W2 gk v1 ([] ++ [45] : List UInt8) := (HB1.out.fr HFd.out (fun h => h)).fr hFd2 (by omega)
  have hFW2 : Fr (fun i => i = g) w W2 := (HF1.out.trans HFd.out (fun _ _ h => h.elim)).trans hFd2 (fun i hi h => by have h : i = W1.heap.size := h; omega)
  have hU2 : TabU W2 := HU.out.fr hFW2 (by omega)
  have HB2 := hid hB2; have HF2 := hid hFW2; have HDec2 := hid hDec2; have HD2 := hid hD1
  obtain ⟨d0, hd0⟩ := decDigits_first V
  have HFF : e0 ≤ 0 → Hid (Calls Tryz.prog 73 #[v1, .pointer (some ⟨D, 0, none⟩), vd] W2 (BufRes W2 gk (([] ++ [45] : List UInt8) ++ fText (Lib.decDigits V) e0))) := fun h => hid (fmtF_any D gd gk true e0 v v1 vd ([] ++ [45] : List UInt8) (Lib.decDigits V) W2 hDec2 hB2 hD1 hgdk hDgk (by simp) (by have := decDigits_len200 hb; omega) h (by omega))
  have HEE : Hid (Calls Tryz.prog 72 #[v1, .int .u8 ((69 : UInt8).toNat : Int), .pointer (some ⟨D, 0, none⟩), vd] W2 (BufRes W2 gk (([] ++ [45] : List UInt8) ++ eText (Lib.decDigits V) 69 (e0 + (Lib.decDigits V).length - 1)))) := hid (fmtE_any D gd gk true e0 v v1 vd ([] ++ [45] : List UInt8) (Lib.decDigits V) d0 69 W2 hDec2 hB2 hD1 hgdk hDgk hd0 (by simp) (by have := decDigits_len200 hb; omega) (by omega) (by omega) (appOk W2 gk h17 hU2))
  have HBL : Hid (Calls Tryz.prog 74 #[.pointer (some ⟨D, 3, none⟩)] W2 fun e w' => e = .returned (.int .i64 (blen V)) ∧ W2 = w') := hid (bigBitLen D 3 v V W2 (by rw [blk_cell hDec2]; rfl) (HV.out.fr hFW2 (fun k hk h => HVG.out k hk h)))
  have HTF := fun h => hid (decText_gF (c := 71) (by decide) true V e0 h)
  have HTE := fun h => hid (decText_gE (c := 71) (by decide) true V e0 h)
  obtain ⟨capd, hvd, _⟩ := hD1.shape
  have k2 : W2.cell? ⟨D, 2, none⟩ = some (.int .i32 e0) := by rw [blk_cell hDec2]; rfl
  have hlen1 : 1 ≤ (Lib.decDigits V).length := by have := (List.getElem?_eq_some_iff.1 hd0).1; omega
  have hlen2 := decDigits_len200 hb
  have hz1 := @decDigits_nought V
  have hz2 := @blen_nought V
  clear hD1 hgd hFd2 hB2 hFW2 hU2 hDec2 hd0 hgdk hDgk h17 hsd hW1 hDw hgkl hWl
  subst hvd
  generalize (Lib.decDigits V).length = n at *
  generalize blen V = bl at *
  by_cases hA : V = 0 ∧ e0 < 0
  · have hn1 := hz1 hA.1
    have hbl := hz2.2 hA.1
    have HTX := HTF ⟨by omega, by rw [if_pos hA]; omega⟩
    have HE := HFF (by omega)
    have hbz : ((bl : Int) == 0) = true := by simp [hbl]
    have hx1 : e0 < 0 := hA.2
    have hx2 : (-6 : Int) ≤ e0 + ((n : Int) + -e0 - 1) := by omega
    have hx3 : e0 ≤ 0 := by omega
    have hx4 : (-2000 : Int) ≤ e0 := by omega
    clear hA hn1 hbl HTF HTE HFF HEE hz1 hz2
    go_wp2_with (go_at_call 74; refine HBL.out.mono ?_; rintro e W2' ⟨rfl, rfl⟩)
    refine HE.out.mono ?_
    rintro e W3 ⟨v3, rfl, h3⟩
    have H3 := hid h3
    clear h3
    go_wp2_with fail
    go_ret
    refine ⟨v3, rfl, ?_⟩
    rw [HTX.out]
    have := BufSt.trans ⟨gk, HB2.out, HGK.out, HF2.out⟩ HB2.out HGK.out H3.out
    simpa using this
  · have HX : Hid (∃ b : Bool, ((bl : Int) == 0) = b ∧ (b = true → ¬ e0 < 0)) := hid ⟨_, rfl, fun h h1 => hA ⟨hz2.1 (by simpa using h), h1⟩⟩
    obtain ⟨b, hbz, hbe⟩ := HX.out
    by_cases hB : e0 ≤ 0 ∧ -6 ≤ e0 + ((n : Int) - 1)
    · have HTX := HTF ⟨hB.1, by rw [if_neg hA]; exact hB.2⟩
      have HE := HFF hB.1
      obtain ⟨hx3, hx2⟩ := hB
      clear hA HTF HTE HFF HEE hz1 hz2 HX
      cases b
      · clear hbe
        go_wp2_with (go_at_call 74; refine HBL.out.mono ?_; rintro e W2' ⟨rfl, rfl⟩)
        refine HE.out.mono ?_
        rintro e W3 ⟨v3, rfl, h3⟩
        have H3 := hid h3
        clear h3
        go_wp2_with fail
        go_ret
        refine ⟨v3, rfl, ?_⟩
        rw [HTX.out]
        have := BufSt.trans ⟨gk, HB2.out, HGK.out, HF2.out⟩ HB2.out HGK.out H3.out
        simpa using this
      · have hx1 : ¬ e0 < 0 := hbe rfl
        have hx4 : (-2000 : Int) ≤ e0 := by omega
        clear hbe
        go_wp2_with (go_at_call 74; refine HBL.out.mono ?_; rintro e W2' ⟨rfl, rfl⟩)
        refine HE.out.mono ?_
        rintro e W3 ⟨v3, rfl, h3⟩
        have H3 := hid h3
        clear h3
        go_wp2_with fail
        go_ret
        refine ⟨v3, rfl, ?_⟩
        rw [HTX.out]
        have := BufSt.trans ⟨gk, HB2.out, HGK.out, HF2.out⟩ HB2.out HGK.out H3.out
        simpa using this
    · have HTX := HTE (by rw [if_neg hA]; exact hB)
      have HE := HEE
      have hx4 : (-2000 : Int) ≤ e0 := by omega
      have hcase : (¬ e0 ≤ 0) ∨ (e0 ≤ 0 ∧ ¬ (-6 : Int) ≤ e0 + ((n : Int) - 1)) := by omega
      clear hA HTF HTE HFF HEE hz1 hz2 HX hB
      rcases hcase with hx3 | ⟨hx3, hx2⟩
      · cases b
        · clear hbe
          go_wp2_with (go_at_call 74; refine HBL.out.mono ?_; rintro e W2' ⟨rfl, rfl⟩)
          refine HE.out.mono ?_
          rintro e W3 ⟨v3, rfl, h3⟩
          have H3 := hid h3
          clear h3
          go_wp2_with fail
          go_ret
          refine ⟨v3, rfl, ?_⟩
          rw [HTX.out]
          have := BufSt.trans ⟨gk, HB2.out, HGK.out, HF2.out⟩ HB2.out HGK.out H3.out
          simpa using this
        · have hx1 : ¬ e0 < 0 := hbe rfl
          clear hbe
          go_wp2_with (go_at_call 74; refine HBL.out.mono ?_; rintro e W2' ⟨rfl, rfl⟩)
          refine HE.out.mono ?_
          rintro e W3 ⟨v3, rfl, h3⟩
          have H3 := hid h3
          clear h3
          go_wp2_with fail
          go_ret
          refine ⟨v3, rfl, ?_⟩
          rw [HTX.out]
          have := BufSt.trans ⟨gk, HB2.out, HGK.out, HF2.out⟩ HB2.out HGK.out H3.out
          simpa using this
      · cases b
        · clear hbe
          go_wp2_with (go_at_call 74; refine HBL.out.mono ?_; rintro e W2' ⟨rfl, rfl⟩)
          refine HE.out.mono ?_
          rintro e W3 ⟨v3, rfl, h3⟩
          have H3 := hid h3
          clear h3
          go_wp2_with fail
          go_ret
          refine ⟨v3, rfl, ?_⟩
          rw [HTX.out]
          have := BufSt.trans ⟨gk, HB2.out, HGK.out, HF2.out⟩ HB2.out HGK.out H3.out
          simpa using this
        · exfalso; have := hbe rfl; omega

end Go.Proofs.YteokhhepnoelhaaGreatDoor

set_option linter.unusedVariables false
set_option linter.unusedSimpArgs false
namespace Go.Proofs.YteokhhepnoelhaaGreatDoor
open Go.RowKit

def cmpZ (A B : Nat) : Int := if A < B then -1 else if B < A then 1 else 0

theorem nval_split (xs : List Nat) (k x : Nat) (h : xs[k]? = some x) : nval xs = nval (xs.take k) + WB ^ k * (x + WB * nval (xs.drop (k + 1))) := by
  have hl : k < xs.length := (List.getElem?_eq_some_iff.1 h).1
  have e : xs = xs.take k ++ xs.drop k := (List.take_append_drop k xs).symm
  have e2 := nval_drop xs k x h
  have e3 : (xs.take k).length = k := by rw [List.length_take]; omega
  conv => lhs; rw [e]
  rw [nval_append, e3, e2]
  rfl
theorem nval_take_lt (xs : List Nat) (k : Nat) (h : ∀ x ∈ xs, x < WB) : nval (xs.take k) < WB ^ k := by
  induction k generalizing xs with
  | zero => simp [nval]
  | succ k ih =>
    cases xs with
    | nil => simpa [nval] using Nat.pow_pos (n := k + 1) WB_pos
    | cons y ys =>
      have h1 := ih ys (fun x hx => h x (by simp [hx]))
      have h2 := h y (by simp)
      simp only [List.take_succ_cons, nval]
      have h3 : WB * (nval (ys.take k) + 1) ≤ WB * WB ^ k := Nat.mul_le_mul_left _ h1
      rw [Nat.pow_succ, Nat.mul_comm (WB ^ k)]
      rw [Nat.mul_add, Nat.mul_one] at h3
      omega
theorem cmp_lt (xs ys : List Nat) (k x y : Nat) (hx : xs[k]? = some x) (hy : ys[k]? = some y) (hd : xs.drop (k + 1) = ys.drop (k + 1)) (hb : ∀ x ∈ xs, x < WB) (h : x < y) : nval xs < nval ys := by
  rw [nval_split xs k x hx, nval_split ys k y hy, hd]
  have h1 := nval_take_lt xs k hb
  have h2 : WB ^ k * (x + WB * nval (ys.drop (k + 1)) + 1) ≤ WB ^ k * (y + WB * nval (ys.drop (k + 1))) := Nat.mul_le_mul_left _ (by omega)
  rw [Nat.mul_add (WB ^ k) _ 1, Nat.mul_one] at h2
  omega
theorem cmp_eq (xs ys : List Nat) (x : Nat) (hx : xs[0]? = some x) (hy : ys[0]? = some x) (hd : xs.drop 1 = ys.drop 1) : nval xs = nval ys := by
  rw [nval_split xs 0 x hx, nval_split ys 0 x hy, hd]; simp

theorem limbs_len_lt {a b : Nat} (h : (limbs a).length < (limbs b).length) : a < b := by
  rcases Nat.lt_or_ge a b with h1 | h1
  · exact h1
  · have := limbs_len_mono a b h1; omega

set_option maxRecDepth 100000 in
set_option maxHeartbeats 2000000 in
theorem natCmp (x y : Value) (A B : Nat) (w : World) (hx : NatAt w x (limbs A)) (hy : NatAt w y (limbs B)) :
    Calls Tryz.prog 176 #[x, y] w fun e w' => e = .returned (.int .i64 (cmpZ A B)) ∧ Fr NoB w w' := by
  by_cases hl : (limbs A).length = (limbs B).length
  · by_cases hA : A = 0
    · have hB : B = 0 := by
        rw [limbs_len_zero hA] at hl
        rcases Nat.eq_zero_or_pos B with h | h
        · exact h
        · have := limbs_len_pos (n := B) (by omega); omega
      subst hA hB
      obtain ⟨Ax, cx, rfl⟩ := hx.shape
      obtain ⟨Ay, cy, rfl⟩ := hy.shape
      rw [limbs_len_zero rfl]
      clear hx hy hl
      go_enter Tryz.func176, Tryz.ntmps176
      go_wp2_with fail
      go_ret
      exact ⟨rfl, Fr.refl _ _⟩
    · have hne : limbs A ≠ [] := fun h => hA (limbs_nil.1 h)
      have hne' : limbs B ≠ [] := fun h => by rw [h] at hl; exact hne (List.length_eq_zero_iff.1 hl)
      obtain ⟨gx, cx, rfl, hcx, hcx1, hcx2, hcx3, _⟩ := hx.cell hne
      obtain ⟨gy, cy, rfl, hcy, hcy1, hcy2, hcy3, _⟩ := hy.cell hne'
      obtain ⟨xs, hxs⟩ : ∃ xs, limbs A = xs := ⟨_, rfl⟩
      obtain ⟨ys, hys⟩ : ∃ ys, limbs B = ys := ⟨_, rfl⟩
      have hbx := limbs_lt A
      have hby := limbs_lt B
      have hvx := nval_limbs A
      have hvy := nval_limbs B
      rw [hxs] at hbx hcx hvx hcx1 hl hne ⊢
      rw [hys] at hby hcy hvy hcy1 hl hne' ⊢
      have hn0 : xs.length ≠ 0 := fun h => hne (List.length_eq_zero_iff.1 h)
      have HX := hid hcx; have HY := hid hcy; have HBX := hid hbx; have HBY := hid hby; have HVX := hid hvx; have HVY := hid hvy; have HL := hid hl
      rw [← hl] at hcy1 ⊢
      obtain ⟨n, hn⟩ : ∃ n, xs.length = n := ⟨_, rfl⟩
      have HN := hid hn
      rw [hn] at hcx1 hcy1 hn0 ⊢
      clear hcx hcy hbx hby hvx hvy hl hx hy hxs hys hne hne' hn hcx2 hcy2 hA
      have e1 : ((n : Int) == 0) = false := beq_eq_false_iff_ne.2 (by omega)
      have e2 : IntKind.i64.wrap ((n : Int) - 1) = (n : Int) - 1 := IntWalk.i64_in _ (by omega)
      go_enter Tryz.func176, Tryz.ntmps176
      go_wp2_with fail
      go_loopw [7] (fun i wr => ∃ k : Nat, i = .int .i64 k ∧ k < n ∧ Hid (xs.drop (k + 1) = ys.drop (k + 1)) ∧ Hid (Fr NoB w wr)) (fun i _ => (intOf i).toNat)
      case atStart => exact ⟨n - 1, congrArg (Value.int .i64) (by omega), by omega, hid (by rw [show n - 1 + 1 = n by omega, List.drop_of_length_le (by have := HN.out; omega), List.drop_of_length_le (by have := HN.out; have := HL.out; omega)]), hid (Fr.refl _ _)⟩
      case round =>
        obtain ⟨k, rfl, hk, hdr, hF⟩ := hrel
        obtain ⟨x, hxk⟩ : ∃ x, xs[k]? = some x := ⟨xs[k]'(by have := HN.out; omega), List.getElem?_eq_getElem _⟩
        obtain ⟨y, hyk⟩ : ∃ y, ys[k]? = some y := ⟨ys[k]'(by have := HN.out; have := HL.out; omega), List.getElem?_eq_getElem _⟩
        have kx : wr.cell? ⟨gx, k, none⟩ = some (.int .u64 (x : Int)) := hF.out.cell' (HX.out k x hxk) (fun h => h)
        have ky : wr.cell? ⟨gy, k, none⟩ = some (.int .u64 (y : Int)) := hF.out.cell' (HY.out k y hyk) (fun h => h)
        have cl : (k : Int) < (n : Int) := by omega
        have u1 : ∀ z : Nat, z < WB → True := fun _ _ => trivial
        have RES : Hid ((x < y → cmpZ A B = -1) ∧ (y < x → cmpZ A B = 1) ∧ (k = 0 → x = y → cmpZ A B = 0)) := hid (by
          refine ⟨fun h => ?_, fun h => ?_, fun h0 h => ?_⟩
          · have := cmp_lt xs ys k x y hxk hyk hdr.out HBX.out h
            rw [HVX.out, HVY.out] at this
            unfold cmpZ; rw [if_pos this]
          · have := cmp_lt ys xs k y x hyk hxk hdr.out.symm HBY.out h
            rw [HVX.out, HVY.out] at this
            unfold cmpZ; rw [if_neg (by omega), if_pos this]
          · subst h0 h
            have := cmp_eq xs ys x hxk hyk hdr.out
            rw [HVX.out, HVY.out] at this
            unfold cmpZ; rw [if_neg (by omega), if_neg (by omega)])
        have NXT : Hid (x = y → k ≠ 0 → xs.drop (k - 1 + 1) = ys.drop (k - 1 + 1)) := hid (fun h h0 => by
          rw [show k - 1 + 1 = k by omega, nval_drop xs k x hxk, nval_drop ys k y hyk, hdr.out, h])
        have HF := hF
        clear hxk hyk hdr hF
        rcases Nat.lt_trichotomy x y with h | h | h
        · have g1 : (x : Int) < (y : Int) := by omega
          have g2 : ((x : Int) == (y : Int)) = false := beq_eq_false_iff_ne.2 (by omega)
          have g3 : ¬ (x : Int) = (y : Int) := by omega
          have R := hid (RES.out.1 h)
          clear RES NXT h
          by_cases h0 : k = 0
          · subst h0
            go_wp2_with fail
            go_quiet (fail)
            go_wp2_with fail
            go_quiet (fail)
            go_wp2_with fail
            go_ret
            exact ⟨by rw [R.out]; rfl, (HF.out.drewN _).drewN _⟩
          · have h1 : decide (0 < k) = true := decide_eq_true (by omega)
            have h2 : (0 : Int) < (k : Int) := by omega
            go_wp2_with fail
            go_quiet (fail)
            go_wp2_with fail
            go_quiet (fail)
            go_wp2_with fail
            go_ret
            exact ⟨by rw [R.out]; rfl, (HF.out.drewN _).drewN _⟩
        · subst h
          by_cases h0 : k = 0
          · have R := hid (RES.out.2.2 h0 rfl)
            clear RES NXT
            subst h0
            have g1 : ¬ (x : Int) < (x : Int) := by omega
            go_wp2_with fail
            go_quiet (fail)
            go_wp2_with fail
            go_quiet (fail)
            go_wp2_with fail
            go_quiet (fail)
            go_wp2_with fail
            go_ret
            exact ⟨by rw [R.out]; rfl, ((HF.out.drewN _).drewN _).drewN _⟩
          · have h1 : decide (0 < k) = true := decide_eq_true (by omega)
            have h2 : (0 : Int) < (k : Int) := by omega
            have nx := hid (NXT.out rfl h0)
            clear RES NXT
            go_wp2_with fail
            go_quiet (fail)
            go_wp2_with fail
            exact ⟨⟨k - 1, congrArg (Value.int .i64) (by omega), by omega, nx, hid (HF.out.drewN _)⟩, by simp [intOf]; omega⟩
        · have g1 : ((x : Int) < (y : Int)) = False := eq_false (by omega)
          have g1' : ((y : Int) < (x : Int)) = True := eq_true (by omega)
          have g2 : ((x : Int) == (y : Int)) = false := beq_eq_false_iff_ne.2 (by omega)
          have R := hid (RES.out.2.1 h)
          clear RES NXT h
          by_cases h0 : k = 0
          · subst h0
            go_wp2_with fail
            go_quiet (fail)
            go_wp2_with fail
            go_quiet (fail)
            go_wp2_with fail
            go_quiet (fail)
            go_wp2_with fail
            go_ret
            exact ⟨by rw [R.out]; rfl, ((HF.out.drewN _).drewN _).drewN _⟩
          · have h1 : decide (0 < k) = true := decide_eq_true (by omega)
            have h2 : (0 : Int) < (k : Int) := by omega
            go_wp2_with fail
            go_quiet (fail)
            go_wp2_with fail
            go_quiet (fail)
            go_wp2_with fail
            go_quiet (fail)
            go_wp2_with fail
            go_ret
            exact ⟨by rw [R.out]; rfl, ((HF.out.drewN _).drewN _).drewN _⟩
  · have hne : ¬ ((limbs A).length : Int) = ((limbs B).length : Int) := by omega
    obtain ⟨Ax, cx, rfl⟩ := hx.shape
    obtain ⟨Ay, cy, rfl⟩ := hy.shape
    have hc : cmpZ A B = if (limbs A).length < (limbs B).length then -1 else 1 := by
      unfold cmpZ
      split
      · rename_i h; have := limbs_len_lt (a := B) (b := A); have : ¬ (limbs B).length < (limbs A).length := fun h' => by have := this h'; omega
        rw [if_pos (by omega)]
      · rename_i h
        have h2 : ¬ (limbs A).length < (limbs B).length := fun h' => h (limbs_len_lt h')
        rw [if_neg h2, if_pos (limbs_len_lt (by omega))]
    rw [hc]
    clear hx hy hc
    generalize (limbs A).length = m at *
    generalize (limbs B).length = n at *
    by_cases h : m < n
    · have h' : (m : Int) < (n : Int) := by omega
      rw [if_pos h]
      clear h
      go_enter Tryz.func176, Tryz.ntmps176
      go_wp2_with fail
      go_ret
      exact ⟨rfl, Fr.refl _ _⟩
    · have h' : ¬ (m : Int) < (n : Int) := by omega
      have h'' : (n : Int) < (m : Int) := by omega
      rw [if_neg h]
      clear h
      go_enter Tryz.func176, Tryz.ntmps176
      go_wp2_with fail
      go_ret
      exact ⟨rfl, Fr.refl _ _⟩
end Go.Proofs.YteokhhepnoelhaaGreatDoor

set_option linter.unusedVariables false
set_option linter.unusedSimpArgs false
namespace Go.Proofs.YteokhhepnoelhaaGreatDoor
open Go.RowKit

theorem BufAt.str {w : World} {g : Nat} {v : Value} {l : List UInt8} (h : BufAt w g v l) : (convert 100 9 v).run Tryz.prog w = .ok (.string ⟨l.toArray⟩) w := by
  have hc := h.cell
  obtain ⟨cap, cs, t, rfl, _⟩ := h
  refine run_convert_bytes_back w 100 9 5 ⟨g, 0, none⟩ cap l Tryz.underlying100 Tryz.underlying5 Tryz.underlying9 (fun j hj => ?_)
  rw [add_plain, Nat.zero_add]
  exact hc j l[j] (List.getElem?_eq_getElem hj)

def FormC (c : UInt8) : Prop := c = 101 ∨ c = 69 ∨ c = 103 ∨ c = 71
theorem decAppend_any (c : UInt8) (hc : FormC c) (D g : Nat) (neg : Bool) (e0 : Int) (v vb : Value) (V : Nat) (w : World) (hD : DecAt w D 0 neg e0 false v false) (hv : NatAt w v (limbs V)) (hb : blen V ≤ 250) (hT : Thr w) (hU : TabU w) (hbuf : BufAt w g vb []) (hDg : D ≠ g) (hg : 19 ≤ g)
    (hvg : ∀ k, natBlk v = some k → k ≠ g) (he : -200 ≤ e0) (he' : e0 ≤ 200) :
    Calls Tryz.prog 48 #[.pointer (some ⟨D, 0, none⟩), vb, .int .u8 (c.toNat : Int)] w (BufRes w g (decText c neg V e0)) := by
  rcases hc with rfl | rfl | rfl | rfl <;> cases neg
  · exact decAppend_e_false D g e0 v vb V w hD hv hb hT hU hbuf hDg hg hvg he he'
  · exact decAppend_e_true D g e0 v vb V w hD hv hb hT hU hbuf hDg hg hvg he he'
  · exact decAppend_E_false D g e0 v vb V w hD hv hb hT hU hbuf hDg hg hvg he he'
  · exact decAppend_E_true D g e0 v vb V w hD hv hb hT hU hbuf hDg hg hvg he he'
  · exact decAppend_g_false D g e0 v vb V w hD hv hb hT hU hbuf hDg hg hvg he he'
  · exact decAppend_g_true D g e0 v vb V w hD hv hb hT hU hbuf hDg hg hvg he he'
  · exact decAppend_G_false D g e0 v vb V w hD hv hb hT hU hbuf hDg hg hvg he he'
  · exact decAppend_G_true D g e0 v vb V w hD hv hb hT hU hbuf hDg hg hvg he he'

def TextRes (w : World) (l : List UInt8) (e : Ending) (w' : World) : Prop := e = .returned (.string ⟨l.toArray⟩) ∧ Fr NoB w w'

set_option maxRecDepth 100000 in
set_option maxHeartbeats 2000000 in
theorem textDec (c : UInt8) (hc : FormC c) (D : Nat) (neg : Bool) (e0 : Int) (v : Value) (V : Nat) (w : World) (hD : DecAt w D 0 neg e0 false v false) (hv : NatAt w v (limbs V)) (hb : blen V ≤ 250) (hT : Thr w) (hU : TabU w) (hg : 19 ≤ w.heap.size)
    (hvg : ∀ k, natBlk v = some k → k < w.heap.size) (he : -200 ≤ e0) (he' : e0 ≤ 200) :
    Calls Tryz.prog 34 #[.pointer (some ⟨D, 0, none⟩), .int .u8 (c.toNat : Int)] w (TextRes w (decText c neg V e0)) := by
  have hF : Fr NoB w (w.alloc (.cells #[.int .u8 0, .int .u8 0, .int .u8 0, .int .u8 0, .int .u8 0, .int .u8 0, .int .u8 0, .int .u8 0, .int .u8 0, .int .u8 0, .int .u8 0, .int .u8 0, .int .u8 0, .int .u8 0, .int .u8 0, .int .u8 0] 99)) := (Fr.refl _ _).alloc _
  have hlt := blk_lt hD
  have HA := hid (decAppend_any c hc D w.heap.size neg e0 v _ V _ (hD.fr hF (fun h => h)) (hv.fr hF (fun _ _ h => h)) hb (hT.fr hF (fun _ _ h => h)) (hU.fr hF (fun h => h)) (buf16 w) (by omega) hg (fun k hk => by have := hvg k hk; omega) he he')
  have HF := hid hF
  clear hD hv hT hU hF hvg
  go_enter Tryz.func34, Tryz.ntmps34
  go_wp2_with (first | (go_at_call 48; refine HA.out.mono ?_; rintro e w1 ⟨vr, rfl, hst⟩; have HF1 := hid (hst.frame); obtain ⟨gk, hbk, _⟩ := hst; have hcv := hbk.str; clear hbk))
  go_ret
  exact ⟨rfl, HF.out.trans HF1.out (fun i hi h => by have h : i = w.heap.size := h; omega)⟩

theorem TabU.lt {w : World} (h : TabU w) : 17 < w.heap.size := by
  have hg : Tryz.prog.globalNamed "internal/strconv.uint64pow10" = some 17 := by kernel_rfl
  unfold TabU Lib.TabIs World.var? at h
  simp only [hg, Option.bind_some] at h
  rcases Nat.lt_or_ge 17 w.heap.size with h1 | h1
  · exact h1
  · rw [Array.getElem?_eq_none h1] at h; simp at h
theorem blen_three (ws : List Nat) (hb : ∀ x ∈ ws, x < WB) (hl : ws.length ≤ 3) : blen (nval ws) ≤ 250 := by
  have h := nval_take_lt ws ws.length hb
  rw [List.take_length] at h
  have h2 : WB ^ ws.length ≤ WB ^ 3 := Nat.pow_le_pow_right (by decide) hl
  have h3 : WB ^ 3 = 2 ^ 192 := by decide +kernel
  by_cases h0 : nval ws = 0
  · rw [h0]; decide
  · have h4 := (blen_bounds h0).1
    have h5 : 2 ^ (blen (nval ws) - 1) < 2 ^ 192 := by rw [← h3]; exact Nat.lt_of_le_of_lt h4 (Nat.lt_of_lt_of_le h h2)
    have := (Nat.pow_lt_pow_iff_right (a := 2) (by decide)).1 h5
    omega

set_option maxRecDepth 100000 in
set_option maxHeartbeats 2000000 in
theorem implText (c : UInt8) (hc : FormC c) (neg : Bool) (A : Option Addr) (n cp : Nat) (ws : List Nat) (e0 : Int) (w : World) (hX : CW w A n cp ws) (hl : ws.length ≤ 3) (hb : ∀ x ∈ ws, x < WB) (he : -200 ≤ e0) (he' : e0 ≤ 200) (hT : Thr w) (hU : TabU w) :
    Calls Tryz.prog 17 #[.agg #[.int .i64 0, .bool neg, .slice A n cp, .int .i64 e0], .int .u8 (c.toNat : Int)] w (TextRes w (decText c neg (nval ws) e0)) := by
  have hF : Fr NoB w (w.alloc (.cells #[.int .i64 0, .bool neg, .slice A n cp, .int .i64 e0] 30)) := (Fr.refl _ _).alloc _
  have hs := hU.lt
  have HM := hid (implMade neg A n cp ws e0 _ (hX.fr hF) (by omega) hb he he')
  have hbl : blen (nval ws) ≤ 250 := blen_three ws hb hl
  have HBL := hid hbl; have HT := hid (hT.fr hF (fun _ _ h => h)); have HU := hid (hU.fr hF (fun h => h)); have HF := hid hF
  clear hX hb hT hU hF hbl
  have hsz : (w.alloc (.cells #[.int .i64 0, .bool neg, .slice A n cp, .int .i64 e0] 30)).heap.size = w.heap.size + 1 := by simp
  have HSZ := hid hsz
  clear hsz
  go_enter Tryz.func17, Tryz.ntmps17
  go_wp2_with fail
  generalize (w.alloc (.cells #[.int .i64 0, .bool neg, .slice A n cp, .int .i64 e0] 30)) = W at *
  refine HM.out.mono ?_
  rintro e w1 ⟨v, rfl, r1, r2, r3, r4⟩
  have hcells := r1.cells
  have HTX := hid (textDec c hc _ neg e0 v (nval ws) w1 r1 r2 HBL.out (HT.out.fr r4 (fun _ _ h => h)) (HU.out.fr r4 (fun h => h)) (by have := r4.size; have := HSZ.out; omega) r2.lt he he')
  have HF1 := hid (HF.out.trans r4 (fun _ _ h => h))
  clear r1 r2 r3 r4 hcells
  go_wp2_with fail
  refine HTX.out.mono ?_
  rintro e w2 ⟨rfl, r⟩
  have HF2 := hid (HF1.out.trans r (fun _ _ h => h))
  clear r
  go_wp2_with fail
  go_ret
  exact ⟨rfl, HF2.out⟩
end Go.Proofs.YteokhhepnoelhaaGreatDoor
