/-
  convertWords at base 10, without a table: the digits of a number, laid from the back.
-/
import Derived.Test.YteokhhepnoelhaaGreatDoorDivVW
import Derived.Test.YteokhhepnoelhaaGreatDoorDigMath
import Derived.Test.YteokhhepnoelhaaGreatDoorRecip
import Derived.Deep.LoopGhost
set_option linter.unusedVariables false
set_option linter.unusedSimpArgs false
namespace Go.Proofs.YteokhhepnoelhaaGreatDoor
open Go.RowKit

theorem recN_d : recN 10000000000000000000 = 15581492618384294730 := by decide +kernel
theorem recOk_d : RecOk 10000000000000000000 15581492618384294730 := fun w => recip_d w
theorem divOk_d : DivOk 10000000000000000000 15581492618384294730 := fun x1 x0 w h1 h0 => by
  have h := divWW_norm x1 x0 10000000000000000000 (by omega) (by omega) h1 h0 w
  rw [recN_d] at h
  exact h

/-- The digits as they stand in s's block. -/
def DigAt (w : World) (gs : Nat) (n0 I i N : Nat) : Prop := ∃ cs, w.heap[gs]? = some (.cells cs 5 (0, 0)) ∧ cs.size = n0 ∧ DigsFrom cs I i N
theorem DigAt.step {w : World} {gs n0 I i N : Nat} (h : DigAt w gs n0 I (i + 1) N) (hi : i < I) (hs : I ≤ n0) (d : Nat) (hd : d = 48 + N / 10 ^ (I - 1 - i) % 10) :
    DigAt (w.setCell ⟨gs, i, none⟩ (.int .u8 (d : Int))) gs n0 I i N := by
  obtain ⟨cs, h1, h2, h3⟩ := h
  exact ⟨_, blk_set h1 i _, by rw [Array.size_setIfInBounds]; exact h2, h3.set hi (by omega) d hd⟩

def ConvEnd (w : World) (vq : Value) (gs n0 I N : Nat) (e : Ending) (w' : World) : Prop :=
  e = .returned (.tuple #[]) ∧ DigAt w' gs n0 I 0 N ∧ Fr (fun i => natBlk vq = some i ∨ i = gs) w w'

theorem NatAt.shape {w : World} {v : Value} {xs : List Nat} (h : NatAt w v xs) : ∃ A c, v = .slice A xs.length c := by
  rcases h with ⟨rfl, rfl⟩ | ⟨g, cap, cs, rfl, _⟩
  · exact ⟨_, _, rfl⟩
  · exact ⟨_, _, rfl⟩
theorem limbs_len_zero {n : Nat} (h : n = 0) : (limbs n).length = 0 := by subst h; rw [limbs_zero]; rfl
theorem limbs_len_pos {n : Nat} (h : n ≠ 0) : 1 ≤ (limbs n).length := by
  have h1 : limbs n ≠ [] := fun hh => h (limbs_nil.1 hh)
  have h2 : (limbs n).length ≠ 0 := fun hh => h1 (List.length_eq_zero_iff.1 hh)
  omega
theorem limbs_len_mono : ∀ (b a : Nat), a ≤ b → (limbs a).length ≤ (limbs b).length := by
  intro b
  induction b using Nat.strongRecOn with
  | ind b ih =>
    intro a h
    by_cases ha : a = 0
    · subst ha; rw [limbs_zero]; simp
    · have hb : b ≠ 0 := by omega
      rw [limbs_pos ha, limbs_pos hb, List.length_cons, List.length_cons]
      have := ih (b / WB) (Nat.div_lt_self (by omega) (by decide)) (a / WB) (Nat.div_le_div_right h)
      omega

/-- What stands at a round's head of convertWords: m rounds are done, i0 places are left. -/
def ConvAt (w0 : World) (vq : Value) (gs n0 I N k m i0 : Nat) (q : Value) (wr : World) : Prop :=
  k = N / 10 ^ (19 * m) ∧ i0 ≤ I ∧ (i0 = 0 ∨ I = i0 + 19 * m) ∧ NatAt wr q (limbs (N / 10 ^ (19 * m))) ∧ (∀ g, natBlk q = some g → natBlk vq = some g ∨ w0.heap.size ≤ g) ∧ DigAt wr gs n0 I i0 N ∧ Fr (fun i => natBlk vq = some i ∨ i = gs) w0 wr

/-- Within a round: jj digits are laid. -/
def ConvIn (w0 : World) (gs n0 I N m i0 jj rr : Nat) (wr : World) : Prop :=
  (i0 = 0 ∨ (I = i0 + (19 * m + jj) ∧ rr = N / 10 ^ (19 * m) % 10000000000000000000 / 10 ^ jj)) ∧ DigAt wr gs n0 I i0 N ∧ Fr (fun i => i = gs) w0 wr

set_option maxRecDepth 100000 in
set_option maxHeartbeats 1000000 in
theorem convertWords10 (vq stk : Value) (N gs I caps : Nat) (cs0 : Array Value) (w : World) (hq : NatAt w vq (limbs N)) (hs : w.heap[gs]? = some (.cells cs0 5 (0, 0))) (hI : I ≤ cs0.size)
    (hqs : ∀ g, natBlk vq = some g → g ≠ gs) (hl : (limbs N).length ≤ 900) (hI' : I ≤ 1000000) :
    Calls Tryz.prog 186 #[vq, stk, .slice (some ⟨gs, 0, none⟩) I caps, .int .u64 10, .int .i64 19, .int .u64 10000000000000000000, .slice none 0 0] w (ConvEnd w vq gs cs0.size I N) := by
  have HQ := hid hq; have HS := hid hs; have HQS := hid hqs
  have hne : ∀ w : World, (binOp .neq 233 (.slice none 0 0) (.slice none 0 0)).run Tryz.prog w = .ok (.bool false) w := fun w => run_neq_slice_nil_any w 233 _ none 0 0 0 0 Tryz.underlying233
  clear hq hs hqs
  go_enter Tryz.func186, Tryz.ntmps186
  go_wp2_with fail
  go_loopg [0, 19, 20] N (fun k q i r wr => ∃ (m i0 rr : Nat), i = .int .i64 i0 ∧ r = .int .u64 rr ∧ Hid (ConvAt w vq gs cs0.size I N k m i0 q wr))
  case atStart => exact ⟨0, I, 0, rfl, rfl, hid ⟨by simp, Nat.le_refl _, .inr (by omega), by simpa using HQ.out, fun g h => .inl h, ⟨cs0, HS.out, rfl, DigsFrom.start _ _ _⟩, Fr.refl _ _⟩⟩
  case round =>
    obtain ⟨m, i0, rr, rfl, rfl, hC⟩ := hrel
    obtain ⟨hk, hi0, hoff, hnat, hblk, hdig, hFr⟩ := hC.out
    obtain ⟨A, c, rfl⟩ := hnat.shape
    have hlen : (limbs (N / 10 ^ (19 * m))).length ≤ 900 := Nat.le_trans (limbs_len_mono _ _ (Nat.div_le_self _ _)) hl
    obtain ⟨wo, rfl⟩ : ∃ wo : World, wo = wr := ⟨_, rfl⟩
    have HNAT := hid hnat; have HBLK := hid hblk; have HDIG := hid hdig; have HFR := hid hFr; have HOFF := hid hoff; have HK := hid hk
    clear hnat hblk hdig hFr hC hk hoff
    by_cases hM : N / 10 ^ (19 * m) = 0
    · have hl0 := limbs_len_zero hM
      have HM := hid hM
      generalize (limbs (N / 10 ^ (19 * m))).length = n at *
      subst hl0
      clear hM
      go_wp2_with fail
      go_loopw [19] (fun i wr => ∃ i1 : Nat, i = .int .i64 i1 ∧ i1 ≤ i0 ∧ Hid (DigAt wr gs cs0.size I i1 N) ∧ Hid (Fr (fun i => natBlk vq = some i ∨ i = gs) w wr)) (fun i _ => (intOf i).toNat)
      case atStart => exact ⟨i0, rfl, Nat.le_refl _, HDIG, HFR⟩
      case round =>
        obtain ⟨i1, rfl, hi1, hD1, hF1⟩ := hrel
        by_cases h0 : i1 = 0
        · subst h0
          go_wp2_with fail
          go_end0
          exact ⟨rfl, hD1.out, hF1.out⟩
        · obtain ⟨i2, rfl⟩ : ∃ i2, i1 = i2 + 1 := ⟨i1 - 1, by omega⟩
          obtain ⟨cs, d1, d2, d3⟩ := hD1.out
          obtain ⟨v0, hv0⟩ : ∃ u, cs[i2]? = some u := ⟨_, Array.getElem?_eq_getElem (by omega)⟩
          have k0 : wr.cell? ⟨gs, i2, none⟩ = some v0 := by rw [blk_cell d1]; exact hv0
          have f0 : wr.frozen? ⟨gs, i2, none⟩ = false := blk_frozen d1 i2
          have hz : N / 10 ^ (I - 1 - i2) % 10 = 0 := by
            rcases HOFF.out with h | h
            · omega
            · exact zero_above HM.out (by omega)
          have HST := hid (hD1.out.step (by omega) hI 48 (by rw [hz]))
          clear d1 d2 d3 hv0 hz
          go_wp2_with fail
          go_roundw
          case rel => exact ⟨i2, by go_num, by omega, hid HST.out, hid (Fr.setCell (S := fun i => natBlk vq = some i ∨ i = gs) (p := ⟨gs, i2, none⟩) hF1.out (fun _ => .inr rfl) _)⟩
          case measure => simp [intOf]
    · have hl1 := limbs_len_pos hM
      have HD := natDivW (.slice A (limbs (N / 10 ^ (19 * m))).length c) (.slice A (limbs (N / 10 ^ (19 * m))).length c) _ (N / 10 ^ (19 * m)) 10000000000000000000 15581492618384294730 wo HNAT.out HNAT.out (by omega) (by omega) recOk_d divOk_d (by omega) hlen
      have HD := hid HD
      have HM := hid hM
      clear hM
      generalize hn : (limbs (N / 10 ^ (19 * m))).length = n at *
      clear hn
      have hRl : N / 10 ^ (19 * m) % 10000000000000000000 < 10000000000000000000 := Nat.mod_lt _ (by omega)
      have hR0 := hid (show N / 10 ^ (19 * m) % 10000000000000000000 = N / 10 ^ (19 * m) % 10000000000000000000 / 10 ^ 0 by simp)
      have HIN := hid (fun jj hj => digit_in N m jj hj)
      unfold DivRes at HD
      obtain ⟨R, hR⟩ : ∃ R, N / 10 ^ (19 * m) % 10000000000000000000 = R := ⟨_, rfl⟩
      rw [hR] at HD hRl
      have HR := hid hR
      clear hR
      go_wp2_with fail
      refine HD.out.mono ?_
      rintro e w2 ⟨q2, rfl, hnat2, hF2, hblk2⟩
      have hgs0 : gs < w.heap.size := blk_lt HS.out
      have hqgs : ∀ g, natBlk (.slice A n c) = some g → g ≠ gs := fun g hg => by
        rcases HBLK.out g hg with h | h
        · exact HQS.out g h
        · omega
      have hdig2 : DigAt w2 gs cs0.size I i0 N := by
        obtain ⟨cs, d1, d2, d3⟩ := HDIG.out
        exact ⟨cs, hF2.blk d1 (fun h => hqgs gs h rfl), d2, d3⟩
      have hq2gs : ∀ g, natBlk q2 = some g → (natBlk vq = some g ∨ w.heap.size ≤ g) := fun g hg => by
        rcases hblk2 g hg with h | h
        · exact HBLK.out g h
        · have := HFR.out.size; exact .inr (by omega)
      have hF02 : Fr (fun i => natBlk vq = some i ∨ i = gs) w w2 := HFR.out.trans hF2 (fun i hi h => by
        rcases HBLK.out i h with h | h
        · exact .inl h
        · omega)
      have HDIG2 := hid hdig2; have HQ2 := hid hq2gs; have HF02 := hid hF02; have HN2 := hid hnat2
      clear hdig2 hq2gs hF02 hnat2 hF2 hblk2 hqgs HDIG HFR HBLK HNAT HD
      go_wp2_with fail
      go_loopw [19, 20, 21] (fun i r j wr => ∃ (i1 rr jj : Nat), i = .int .i64 i1 ∧ r = .int .u64 rr ∧ j = .int .i64 jj ∧ i1 ≤ i0 ∧ rr < 10000000000000000000 ∧ jj ≤ 19 ∧ Hid (ConvIn w2 gs cs0.size I N m i1 jj rr wr)) (fun _ _ j _ => 19 - (intOf j).toNat)
      case atStart => exact ⟨i0, R, 0, rfl, rfl, rfl, Nat.le_refl _, hRl, Nat.zero_le _, hid ⟨HOFF.out.imp (fun h => h) (fun h => ⟨by omega, by rw [← HR.out]; exact hR0.out⟩), HDIG2.out, Fr.refl _ _⟩⟩
      case round =>
        obtain ⟨i1, rr', jj, rfl, rfl, rfl, hi1, hrr, hjj, hC⟩ := hrel
        obtain ⟨hoff1, hdig1, hFr1⟩ := hC.out
        by_cases h0 : jj < 19 ∧ 0 < i1
        · obtain ⟨hj19, hipos⟩ := h0
          obtain ⟨i2, rfl⟩ : ∃ i2, i1 = i2 + 1 := ⟨i1 - 1, by omega⟩
          have hoff2 := hoff1.resolve_left (by omega)
          obtain ⟨o1, o2⟩ := hoff2
          obtain ⟨cs, d1, d2, d3⟩ := hdig1
          obtain ⟨v0, hv0⟩ : ∃ u, cs[i2]? = some u := ⟨_, Array.getElem?_eq_getElem (by omega)⟩
          have k0 : wr.cell? ⟨gs, i2, none⟩ = some v0 := by rw [blk_cell d1]; exact hv0
          have f0 : wr.frozen? ⟨gs, i2, none⟩ = false := blk_frozen d1 i2
          have hdg : 48 + rr' % 10 = 48 + N / 10 ^ (I - 1 - i2) % 10 := by
            rw [o2, HIN.out jj hj19, show I - 1 - i2 = 19 * m + jj by omega]
          have hst := hC.out.2.1.step (i := i2) (by omega) hI (48 + rr' % 10) hdg
          rw [show ((48 + rr' % 10 : Nat) : Int) = 48 + ((rr' : Int) - (rr' : Int) / 10 * 10) by omega] at hst
          have hnx : rr' / 10 = N / 10 ^ (19 * m) % 10000000000000000000 / 10 ^ (jj + 1) := by rw [o2, rest_step]
          have HST := hid hst; have HNX := hid hnx; have HF1 := hid hFr1; have HO1 := hid o1
          clear hst hnx hFr1 o1 o2 d1 d2 d3 hv0 hdg hoff1 hC
          go_wp2_with fail
          go_roundw
          case rel =>
            refine ⟨i2, rr' / 10, jj + 1, by go_num, by simp, by go_num, by omega, by omega, by omega, hid ⟨.inr ⟨by have := HO1.out; omega, HNX.out⟩, HST.out, ?_⟩⟩
            exact Fr.setCell (S := fun i => i = gs) (p := ⟨gs, i2, none⟩) HF1.out (fun _ => rfl) _
          case measure => simp [intOf]; omega
        · have hdone : i1 = 0 ∨ I = i1 + 19 * (m + 1) := by
            rcases hoff1 with h | ⟨h, _⟩
            · exact .inl h
            · by_cases hz : i1 = 0
              · exact .inl hz
              · exact .inr (by omega)
          have HDN := hid hdone; have HD1 := hid hdig1; have HF1 := hid hFr1
          have hend : jj = 19 ∨ (jj < 19 ∧ i1 = 0) := by omega
          clear hdone hdig1 hFr1 hoff1 hC h0
          have fin : Hid (N / 10 ^ (19 * (m + 1)) < gk ∧ ConvAt w vq gs cs0.size I N (N / 10 ^ (19 * (m + 1))) (m + 1) i1 q2 wr) := by
            refine hid ⟨?_, rfl, by omega, HDN.out, ?_, HQ2.out, HD1.out, ?_⟩
            · rw [HK.out, ← quot_step]
              exact Nat.div_lt_self (Nat.pos_of_ne_zero HM.out) (by omega)
            · rw [← quot_step]
              exact HN2.out.fr HF1.out (fun g hg h => by
                have h : g = gs := h
                rcases HQ2.out g hg with h2 | h2
                · exact HQS.out g h2 h
                · omega)
            · exact HF02.out.trans HF1.out (fun i hi h => .inr h)
          clear HDN HD1 HF1 HN2 HQ2 HF02 HDIG2
          rcases hend with rfl | ⟨hj, rfl⟩
          · go_wp2_with fail
            go_roundg (N / 10 ^ (19 * (m + 1)))
            case measure => exact fin.out.1
            case rel => exact ⟨m + 1, i1, rr', rfl, rfl, hid fin.out.2⟩
          · go_wp2_with fail
            go_roundg (N / 10 ^ (19 * (m + 1)))
            case measure => exact fin.out.1
            case rel => exact ⟨m + 1, 0, rr', rfl, rfl, hid fin.out.2⟩
end Go.Proofs.YteokhhepnoelhaaGreatDoor
