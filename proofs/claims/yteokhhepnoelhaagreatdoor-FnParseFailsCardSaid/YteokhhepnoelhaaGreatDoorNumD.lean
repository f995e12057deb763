/-
  NumDigits where two rows of the table agree.
-/
import Derived.Test.YteokhhepnoelhaaGreatDoorTab
set_option linter.unusedVariables false
set_option linter.unusedSimpArgs false
namespace Go.Proofs.YteokhhepnoelhaaGreatDoor
open Go.RowKit

theorem bigBitLen (D o : Nat) (v : Value) (V : Nat) (w : World) (h1 : w.cell? ⟨D, o + 1, none⟩ = some v) (hv : NatAt w v (limbs V)) :
    Calls Tryz.prog 74 #[.pointer (some ⟨D, o, none⟩)] w fun e w' => e = .returned (.int .i64 (blen V)) ∧ w = w' := by
  have HL := hid (natBitLen v V w hv)
  obtain ⟨A, c, rfl⟩ := hv.shape
  clear hv
  generalize (limbs V).length = n at *
  go_enter Tryz.func74, Tryz.ntmps74
  go_wp2_with (first | (go_at_call 114; go_in))
  refine HL.out.mono ?_
  rintro e w1 ⟨rfl, rfl⟩
  go_wp2_with fail
  go_ret
  exact ⟨rfl, rfl⟩

set_option maxRecDepth 100000 in
set_option maxHeartbeats 2000000 in
theorem numDigits_same (D o : Nat) (v : Value) (V b d : Nat) (w : World) (h1 : w.cell? ⟨D, o + 1, none⟩ = some v) (hv : NatAt w v (limbs V)) (hT : Thr w) (hb : blen V = b) (hb1 : 1 ≤ b) (hb2 : b < 128) (hd : tabDigits b = d) (ht : tabDigits (b + 1) = d) :
    Calls Tryz.prog 132 #[.pointer (some ⟨D, o, none⟩)] w fun e w' => e = .returned (.int .i64 (d : Int)) ∧ Fr NoB w w' := by
  have HB := bigBitLen D o v V w h1 hv
  rw [hb] at HB
  have HB := hid HB
  have HTB := digitsLookup b w hT hb1 (by omega)
  unfold TabRes at HTB
  rw [hd] at HTB
  have HTB := hid HTB
  clear hd
  have HT := hid hT
  have b0 : ((b : Int) == 0) = false := beq_eq_false_iff_ne.2 (by omega)
  have b1 : decide ((b : Int) < 128) = true := decide_eq_true (by omega)
  have b2 : (b : Int) ≤ 128 := by omega
  have b3 : IntKind.i64.wrap ((b : Int) + 1) = (b : Int) + 1 := IntWalk.i64_in _ (by omega)
  have hlt : (b : Int) < 128 := by omega
  clear h1 hv hT hb
  go_enter Tryz.func132, Tryz.ntmps132
  go_wp2_with fail
  refine HB.out.mono ?_
  rintro e w1 ⟨rfl, rfl⟩
  go_wp2_with fail
  refine HTB.out.mono ?_
  rintro e w2 ⟨E, v1, v2, rfl, hEl, hE, hn, hF⟩
  have hFd : Fr NoB w2 w2.drew := (Fr.refl _ _).drew
  have hN := digitsLookup (b + 1) w2.drew ((HT.out.fr hF (fun _ _ h => h)).fr hFd (fun _ _ h => h)) (by omega) (by omega)
  rw [show ((b + 1 : Nat) : Int) = (b : Int) + 1 by omega] at hN
  unfold TabRes at hN
  rw [ht] at hN
  have HN := hid hN
  have e0 : w2.cell? ⟨E, 0, none⟩ = some (.int .i64 (d : Int)) := by rw [blk_cell hE]; rfl
  have e0d : w2.drew.cell? ⟨E, 0, none⟩ = some (.int .i64 (d : Int)) := e0
  have HE := hid hE; have HF := hid hF
  clear hE hn hF hFd hN ht
  go_wp2_with fail
  go_region_with (first | (go_at_call 166; refine HN.out.mono ?_; rintro e w3 ⟨E', v1', v2', rfl, hEl', hE', hn', hF'⟩; have k3 : w3.cell? ⟨E', 0, none⟩ = some (.int .i64 (d : Int)) := (by rw [blk_cell hE']; rfl); have k4 : w3.cell? ⟨E, 0, none⟩ = some (.int .i64 (d : Int)) := hF'.cell' e0d (fun h => h); have HF3 := hid (show Fr NoB w w3 from HF.out.drew.trans hF' (fun _ _ h => h)); clear hE' hn' hF'))
  all_goals
    go_wp2_with fail
    go_ret
    exact ⟨rfl, HF3.out⟩
end Go.Proofs.YteokhhepnoelhaaGreatDoor
