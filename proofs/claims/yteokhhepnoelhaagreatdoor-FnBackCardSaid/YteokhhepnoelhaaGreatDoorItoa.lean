/-
  nat.itoa at base 10, without a sign.
-/
import Derived.Test.YteokhhepnoelhaaGreatDoorNatSet
import Derived.Test.YteokhhepnoelhaaGreatDoorPlaces
import Derived.Test.YteokhhepnoelhaaGreatDoorLog2
import Derived.Test.YteokhhepnoelhaaGreatDoorPow
import Derived.Defers
import Derived.Lib.SlBytesConst
set_option linter.unusedVariables false
set_option linter.unusedSimpArgs false
namespace Go.Proofs.YteokhhepnoelhaaGreatDoor
open Go.RowKit

/-- A row of bytes of the call's own, from block B on. -/
def BytesAt (w : World) (B : Nat) (v : Value) (l : List UInt8) : Prop :=
  ∃ g o cap cs fr, v = .slice (some ⟨g, o, none⟩) l.length cap ∧ B ≤ g ∧ w.heap[g]? = some (.cells cs 5 fr) ∧ o + cap ≤ cs.size ∧ l.length ≤ cap ∧ cap ≤ 1000000 ∧ ∀ (j : Nat) (b : UInt8), l[j]? = some b → cs[o + j]? = some (.int .u8 (b.toNat : Int))
theorem BytesAt.fr {w w' : World} {S : Nat → Prop} {B : Nat} {v : Value} {l : List UInt8} (h : BytesAt w B v l) (hF : Fr S w w') (hS : ∀ g, B ≤ g → ¬ S g) : BytesAt w' B v l := by
  obtain ⟨g, o, cap, cs, fr, h1, h2, h3, h4⟩ := h
  exact ⟨g, o, cap, cs, fr, h1, h2, hF.blk h3 (hS g h2), h4⟩

theorem limbs_len_blen (N k : Nat) (h : blen N ≤ 64 * k) : (limbs N).length ≤ k := by
  refine limbs_length_le k N ?_
  have h1 : N < 2 ^ blen N := by
    by_cases h0 : N = 0
    · subst h0; exact Nat.pow_pos (by omega)
    · exact (blen_bounds h0).2.1
  have h2 : 2 ^ blen N ≤ 2 ^ (64 * k) := Nat.pow_le_pow_right (by omega) h
  have h3 : (2 : Nat) ^ (64 * k) = WB ^ k := by rw [Nat.pow_mul]; rfl
  omega
theorem Tryz.info5 : (Tryz.prog.info? 5).map (fun i => (i.zero, i.size, i.bytes)) = some (some (.int .u8 0), 1, 1) := by kernel_rfl
theorem run_make100 (n : Nat) (hn : n ≤ 1000000) (w : World) :
    (Instr.makeSlice 100 (.int .i64 (n : Int)) (.int .i64 (n : Int))).run Tryz.prog w = .ok (.slice (some ⟨w.heap.size, 0, none⟩) n n) (w.alloc (.cells (madeCells #[.int .u8 0] n) 5)) := by
  obtain ⟨i, hi, hz⟩ := Option.map_eq_some_iff.1 Tryz.info5
  simp only [Prod.mk.injEq] at hz
  obtain ⟨h0, h1, h2⟩ := hz
  have h := run_make (P := Tryz.prog) w 100 5 i (.int .u8 0) Tryz.underlying100 hi h0 .i64 .i64 n n (by omega) (by omega) (by rw [h2]; omega) (by omega)
  rw [h1, Nat.mul_one, Int.toNat_natCast] at h
  exact h

theorem places_facts (bl : Nat) (h : bl < 300) : ∃ f q, (∀ w, (convert 3 220 (.int .i64 (bl : Int))).run Tryz.prog w = .ok (.float .f64 f) w) ∧ (∀ w, (binOp .quo 220 (.float .f64 f) (.float .f64 4614662735865160561)).run Tryz.prog w = .ok (.float .f64 q) w) ∧
    ∀ w, (convert 220 3 (.float .f64 q)).run Tryz.prog w = .ok (.int .i64 ((bl * 30103 / 100000 : Nat) : Int)) w := by
  obtain ⟨q, h1, h2⟩ := places_run bl h
  exact ⟨_, q, fun w => conv_run bl w, h1, h2⟩

theorem free_deferred (s : Addr) (u : FrameMode) (w : World) (h : w.cell? s = some (.pointer none)) :
    CallsD Tryz.prog 183 #[.pointer (some s)] u w fun e u' w' => u' = u ∧ (e = .returned (.tuple #[]) ∧ w' = w) := by
  go_enter_d Tryz.func183, Tryz.ntmps183
  go_wp2
  go_end0
  exact ⟨rfl, rfl⟩

def ItoaEnd (w : World) (N : Nat) (e : Ending) (w' : World) : Prop := ∃ v, e = .returned v ∧ BytesAt w' w.heap.size v (Lib.decDigits N) ∧ Fr NoB w w'

set_option maxRecDepth 100000 in
set_option maxHeartbeats 1000000 in
theorem natItoa_zero (vx : Value) (w : World) (hx : NatAt w vx (limbs 0)) : Calls Tryz.prog 154 #[vx, .bool false, .int .i64 10] w (ItoaEnd w 0) := by
  obtain ⟨A, c, rfl⟩ := hx.shape
  have hl0 : (limbs 0).length = 0 := by rw [limbs_zero]; rfl
  rw [hl0]
  have hd : Lib.decDigits 0 = [48] := by rw [Lib.decDigits_one (by omega)]; rfl
  have N : ItoaEnd w 0 (.returned (.slice (some ⟨w.heap.size, 0, none⟩) 1 1)) (w.alloc (.cells #[.int .u8 48] 5 (1, 2))) :=
    ⟨_, rfl, by rw [hd]; exact ⟨w.heap.size, 0, 1, _, _, rfl, Nat.le_refl _, blk_new _ _, by simp, by simp, by omega, fun j b hj => by
      cases j with
      | zero => simp at hj; subst hj; rfl
      | succ j => simp at hj⟩, (Fr.refl _ _).alloc _⟩
  have N := hid N
  clear hx hd hl0
  have kc := fun (w : World) (C : Array Value) (n c : Nat) => Lib.run_convert_bytes_const (P := Tryz.prog) w 100 5 C n c Tryz.underlying100 Tryz.underlying5
  go_enter_defers Tryz.func154, Tryz.ntmps154
  go_wp2_with fail
  refine ⟨_, results_tmp (t := 6) rfl _ _ _, ?_⟩
  exact N.out

set_option maxRecDepth 100000 in
set_option maxHeartbeats 1000000 in
theorem natItoa_pos (vx : Value) (N : Nat) (h0 : N ≠ 0) (hb : blen N < 300) (w : World) (hx : NatAt w vx (limbs N)) (hleaf : w.cell? ⟨9, 0, none⟩ = some (.int .i64 8)) :
    Calls Tryz.prog 154 #[vx, .bool false, .int .i64 10] w (ItoaEnd w N) := by
  have HL := hid (natBitLen vx N w hx)
  obtain ⟨A, c, rfl⟩ := hx.shape
  have hl1 := limbs_len_pos h0
  have hl5 : (limbs N).length ≤ 5 := limbs_len_blen N 5 (by omega)
  obtain ⟨f, q, c1, c2, c3⟩ := places_facts (blen N) hb
  have c10 : ∀ w, (convert 3 220 (.int .i64 10)).run Tryz.prog w = .ok (.float .f64 4621819117588971520) w := fun w => by kernel_rfl
  have hpl : places N = blen N * 30103 / 100000 + 1 := rfl
  have hp100 : blen N * 30103 / 100000 ≤ 1000 := by omega
  have hmk := fun w : World => run_make100 (places N) (by omega) w
  have HLT := hid (lt_places hb)
  have HPL := hid hpl
  have eb : bits .and .u64 10 18446744073709551606 = 2 := by kernel_rfl
  have HX := hid hx; have H0 := hid h0
  have HLF := hid hleaf
  have HS := hid (fun wx (h : NatAt wx (.slice A (limbs N).length c) (limbs N)) => natSet (.slice none 0 0) (.slice A (limbs N).length c) [] (limbs N) wx (NatAt.nil _) h (by omega))
  rw [hpl] at hmk
  clear hpl hx h0
  rw [show ((blen N * 30103 / 100000 + 1 : Nat) : Int) = ((blen N * 30103 / 100000 : Nat) : Int) + 1 by omega] at hmk
  generalize blen N * 30103 / 100000 = bb at *
  generalize hnl : (limbs N).length = n at *
  clear hnl
  go_enter_defers Tryz.func154, Tryz.ntmps154
  go_wp2_with (first | (go_at_call 156; refine HL.out.mono ?_; rintro e w1 ⟨rfl, rfl⟩) | (go_at_call 180; refine (abs_10 _).mono ?_; rintro e w1 ⟨rfl, rfl⟩) | (go_at_call 182; go_in) | (go_at_call 184; refine (maxPow10 _).mono ?_; rintro e w1 ⟨rfl, rfl⟩))
  go_outline
  have hF1 : Fr NoB w ((w.alloc (.cells (madeCells #[.int .u8 0] (bb + 1)) 5)).alloc (.cells #[.pointer none] 260)) := ((Fr.refl _ _).alloc _).alloc _
  have hs1 : ((w.alloc (.cells (madeCells #[.int .u8 0] (bb + 1)) 5)).alloc (.cells #[.pointer none] 260)).heap[w.heap.size]? = some (.cells (madeCells #[.int .u8 0] (bb + 1)) 5 (0, 0)) := blk_alloc (blk_new w _) _
  have hst : ((w.alloc (.cells (madeCells #[.int .u8 0] (bb + 1)) 5)).alloc (.cells #[.pointer none] 260)).heap[w.heap.size + 1]? = some (.cells #[.pointer none] 260 (0, 0)) := by
    have := blk_new (w.alloc (.cells (madeCells #[.int .u8 0] (bb + 1)) 5)) (.cells #[.pointer none] 260 (0, 0))
    rw [World.size_alloc] at this
    exact this
  have hsz : (madeCells #[Value.int .u8 0] (bb + 1)).size = bb + 1 := by simp [size_madeCells]
  have hX1 := HX.out.fr hF1 (fun g hg h => h)
  have k9 := hF1.cell' HLF.out (fun h => h)
  have hWs : w.heap.size + 2 = ((w.alloc (.cells (madeCells #[.int .u8 0] (bb + 1)) 5)).alloc (.cells #[.pointer none] 260)).heap.size := by simp
  generalize ((w.alloc (.cells (madeCells #[.int .u8 0] (bb + 1)) 5)).alloc (.cells #[.pointer none] 260)) = W at *
  generalize madeCells #[Value.int .u8 0] (bb + 1) = cs0 at *
  have HS1 := hid (HS.out W hX1)
  have HF1 := hid hF1; have HB1 := hid hs1; have HST := hid hst; have HSZ := hid hsz; have HWS := hid hWs
  clear hF1 hs1 hst hsz hX1 HS hWs hmk c1 c2 c3 c10
  go_wp2_with (first | (go_at_call 185; go_in))
  refine HS1.out.mono ?_
  rintro e w2 ⟨vq, rfl, hnq, hFq, hbq⟩
  have hFq : Fr NoB W w2 := hFq.mono (fun i hi h => by cases h)
  have hvq : ∀ g, natBlk vq = some g → W.heap.size ≤ g := fun g hg => (hbq g hg).resolve_left (by intro h; cases h)
  have HC := hid (convertWords10 vq (.pointer (some ⟨w.heap.size + 1, 0, none⟩)) N w.heap.size (bb + 1) (bb + 1) cs0 w2 hnq (hFq.blk HB1.out (fun h => h)) (by have := HSZ.out; omega) (fun g hg h => by have := hvq g hg; have := HWS.out; omega) (by
    have := limbs_len_mono N N (Nat.le_refl _)
    have h5 := limbs_len_blen N 5 (by omega)
    omega) (by omega))
  have HFQ := hid hFq; have HVQ := hid hvq
  clear hnq hFq hvq hbq
  go_wp2_with fail
  refine HC.out.mono ?_
  rintro e w3 ⟨rfl, hdig, hF3⟩
  obtain ⟨cs, d1, d2, d3⟩ := hdig
  have hN := H0.out
  have hnd : Lib.nDigits N ≤ bb + 1 := nDigits_le hN (by have := HLT.out; rw [HPL.out] at this; exact this)
  have hn1 := Lib.nDigits_pos N
  have hFa : Fr NoB w w3 := by
    refine HF1.out.trans (Fr.trans (S := fun i => natBlk vq = some i ∨ i = w.heap.size) (HFQ.out.mono (fun _ _ h => h.elim)) hF3 (fun i hi h => h)) (fun i hi h => ?_)
    rcases h with h | h
    · have := HVQ.out i h; have := HWS.out; omega
    · omega
  have hstk : w3.cell? ⟨w.heap.size + 1, 0, none⟩ = some (.pointer none) := by
    have h1 := HFQ.out.blk HST.out (fun h => h)
    have h2 := hF3.blk h1 (fun h => by
      rcases h with h | h
      · have := HVQ.out _ h; have := HWS.out; omega
      · omega)
    rw [blk_cell h2]; rfl
  obtain ⟨z0, hz0⟩ : ∃ z0, z0 + Lib.nDigits N = bb + 1 := ⟨bb + 1 - Lib.nDigits N, by omega⟩
  have hzero : ∀ k, k < z0 → w3.cell? ⟨w.heap.size, k, none⟩ = some (.int .u8 48) := fun k hk => by
    rw [blk_cell d1, d3 k (Nat.zero_le _) (by omega), show (N / 10 ^ (bb + 1 - 1 - k) % 10) = 0 from ?_]
    · rfl
    · have h1 := Lib.lt_pow_nDigits N
      have h2 : 10 ^ Lib.nDigits N ≤ 10 ^ (bb + 1 - 1 - k) := Nat.pow_le_pow_right (by omega) (by omega)
      rw [Nat.div_eq_of_lt (by omega)]
  have hlead : ∃ d : Nat, w3.cell? ⟨w.heap.size, z0, none⟩ = some (.int .u8 (d : Int)) ∧ d ≠ 48 := by
    refine ⟨_, by rw [blk_cell d1, d3 z0 (Nat.zero_le _) (by omega)], ?_⟩
    have := lead_digit hN
    rw [show bb + 1 - 1 - z0 = Lib.nDigits N - 1 by omega]
    omega
  have hfin : ItoaEnd w N (.returned (.slice (some ⟨w.heap.size, z0, none⟩) (bb + 1 - z0) (bb + 1 - z0))) w3 := by
    refine ⟨_, rfl, ⟨w.heap.size, z0, bb + 1 - z0, cs, _, by rw [Lib.decDigits_length, show bb + 1 - z0 = Lib.nDigits N by omega], Nat.le_refl _, d1, by have := HSZ.out; omega, by rw [Lib.decDigits_length]; omega, by omega, fun j b hj => ?_⟩, hFa⟩
    have hjl := (List.getElem?_eq_some_iff.1 hj).1
    rw [Lib.decDigits_length] at hjl
    obtain ⟨b', hb1, hb2⟩ := decDigits_get N j hjl
    rw [hb1] at hj
    cases hj
    rw [d3 (z0 + j) (Nat.zero_le _) (by omega), hb2, show bb + 1 - 1 - (z0 + j) = Lib.nDigits N - 1 - j by omega]
  have HZ := hid hzero; have HLD := hid hlead; have HFIN := hid hfin; have HSTK := hid hstk
  have hzb : (z0 : Int) < (bb : Int) + 1 := by omega
  clear hzero hlead hfin hstk d1 d2 d3 hN hFa hF3 hnd hn1 hz0 HC HFQ HVQ HF1 HB1 HST
  go_wp2_with fail
  go_loop [7] (fun i => ∃ k : Nat, i = .int .i64 k ∧ k ≤ z0) (fun i => z0 - (intOf i).toNat)
  case atStart => exact ⟨0, rfl, Nat.zero_le _⟩
  case round =>
    obtain ⟨k, rfl, hk⟩ := hrel
    by_cases hlt : k < z0
    · have hc := HZ.out k hlt
      go_wp2_with fail
      go_round
      case rel => exact ⟨k + 1, by go_num, by omega⟩
      case measure => simp [intOf]; omega
    · obtain rfl : k = z0 := by omega
      obtain ⟨d, hc, hd⟩ := HLD.out
      have hd48 : ((d : Int) == 48) = false := beq_eq_false_iff_ne.2 (by omega)
      go_wp2_with fail
      refine leaves_cons (f := 183) (args := #[.pointer (some ⟨w.heap.size + 1, 0, none⟩)]) (by simp) (by simp [go_sem]) ?_
      refine (free_deferred _ .returning _ HSTK.out).mono ?_
      rintro e u' w'' ⟨rfl, rfl, rfl⟩
      refine ⟨_, results_tmp (t := 6) rfl _ _ _, ?_⟩
      exact HFIN.out

theorem natItoa (vx : Value) (N : Nat) (hb : blen N < 300) (w : World) (hx : NatAt w vx (limbs N)) (hleaf : w.cell? ⟨9, 0, none⟩ = some (.int .i64 8)) :
    Calls Tryz.prog 154 #[vx, .bool false, .int .i64 10] w (ItoaEnd w N) := by
  by_cases h0 : N = 0
  · subst h0; exact natItoa_zero vx w hx
  · exact natItoa_pos vx N h0 hb w hx hleaf
end Go.Proofs.YteokhhepnoelhaaGreatDoor
