/-
  (*Context).round at the precision 0; (*Decimal).Sign.
-/
import Derived.Test.YteokhhepnoelhaaGreatDoorSetExp
import Derived.Test.YteokhhepnoelhaaGreatDoorPtr
set_option linter.unusedVariables false
set_option linter.unusedSimpArgs false
namespace Go.Proofs.YteokhhepnoelhaaGreatDoor
open Go.RowKit

def bigSign (cn : Bool) (k : Nat) (m : Bool) : Int := if m then -1 else if k = 0 then 0 else if cn then -1 else 1
def decSign (f : Int) (n cn : Bool) (k : Nat) (m : Bool) : Int := if f = 0 ∧ bigSign cn k m = 0 then 0 else if n then -1 else 1

theorem bigSign_any (D o : Nat) (cn : Bool) (A : Option Addr) (k kc : Nat) (m : Bool) (w : World) (h3 : w.cell? ⟨D, o, none⟩ = some (.bool cn)) (h4 : w.cell? ⟨D, o + 1, none⟩ = some (.slice A k kc)) (h5 : w.cell? ⟨D, o + 2, none⟩ = some (.bool m)) :
    Calls Tryz.prog 103 #[.pointer (some ⟨D, o, none⟩)] w fun e w' => e = .returned (.int .i64 (bigSign cn k m)) ∧ w = w' := by
  cases m with
  | true =>
    go_enter Tryz.func103, Tryz.ntmps103
    go_wp2
    go_ret
    exact ⟨rfl, rfl⟩
  | false =>
    by_cases hk : k = 0
    · subst hk
      go_enter Tryz.func103, Tryz.ntmps103
      go_wp2
      go_ret
      exact ⟨rfl, rfl⟩
    · have hk0 : ((k : Int) == 0) = false := by simp; omega
      have hk' : bigSign cn k false = if cn then -1 else 1 := by simp [bigSign, hk]
      have HK := hid hk'
      clear hk'
      cases cn with
      | true =>
        go_enter Tryz.func103, Tryz.ntmps103
        go_wp2
        go_ret
        exact ⟨by rw [HK.out]; rfl, rfl⟩
      | false =>
        go_enter Tryz.func103, Tryz.ntmps103
        go_wp2
        go_ret
        exact ⟨by rw [HK.out]; rfl, rfl⟩

theorem decSign_any (D : Nat) (f : Int) (n : Bool) (e0 : Int) (cn : Bool) (A : Option Addr) (k kc : Nat) (m : Bool) (w : World) (hD : DecAt w D f n e0 cn (.slice A k kc) m) :
    Calls Tryz.prog 100 #[.pointer (some ⟨D, 0, none⟩)] w fun e w' => e = .returned (.int .i64 (decSign f n cn k m)) ∧ w = w' := by
  obtain ⟨⟨h0, h1, h2, h3, h4, h5⟩, f0, f1, f2, f3, f4, f5⟩ := hD.cells
  have HS := hid (bigSign_any D 3 cn A k kc m w h3 h4 h5)
  clear hD h2 h3 h4 h5 f0 f1 f2 f3 f4 f5
  by_cases hf : f = 0
  · subst hf
    by_cases hb : bigSign cn k m = 0
    · have hd : decSign 0 n cn k m = 0 := by simp [decSign, hb]
      have H := hid hd
      clear hd
      rw [hb] at HS
      clear hb
      go_enter Tryz.func100, Tryz.ntmps100
      go_wp2_with (go_at_call 103; refine HS.out.mono ?_; rintro e w1 ⟨rfl, rfl⟩)
      go_ret
      exact ⟨by rw [H.out]; rfl, rfl⟩
    · have hd : decSign 0 n cn k m = if n then -1 else 1 := by simp [decSign, hb]
      have H := hid hd
      clear hd
      have hb0 : (bigSign cn k m == 0) = false := by simpa using hb
      generalize bigSign cn k m = s at *
      cases n with
      | true =>
        go_enter Tryz.func100, Tryz.ntmps100
        go_wp2_with (go_at_call 103; refine HS.out.mono ?_; rintro e w1 ⟨rfl, rfl⟩)
        go_ret
        exact ⟨by rw [H.out]; rfl, rfl⟩
      | false =>
        go_enter Tryz.func100, Tryz.ntmps100
        go_wp2_with (go_at_call 103; refine HS.out.mono ?_; rintro e w1 ⟨rfl, rfl⟩)
        go_ret
        exact ⟨by rw [H.out]; rfl, rfl⟩
  · have hd : decSign f n cn k m = if n then -1 else 1 := by simp [decSign, hf]
    have H := hid hd
    clear hd
    have hf0 : (f == 0) = false := by simpa using hf
    cases n with
    | true =>
      go_enter Tryz.func100, Tryz.ntmps100
      go_wp2_with fail
      go_ret
      exact ⟨by rw [H.out]; rfl, rfl⟩
    | false =>
      go_enter Tryz.func100, Tryz.ntmps100
      go_wp2_with fail
      go_ret
      exact ⟨by rw [H.out]; rfl, rfl⟩

set_option maxRecDepth 100000 in
set_option maxHeartbeats 1000000 in
theorem round_zero (D cb : Nat) (f : Int) (n : Bool) (e0 : Int) (cn : Bool) (A : Option Addr) (k kc : Nat) (m : Bool) (nd : Int) (w : World) (hD : DecAt w D f n e0 cn (.slice A k kc) m)
    (traps : Int) (r : ByteArray) (hC : CtxAt w cb 0 100000 (-100000) traps r) (helo : -100000 ≤ e0) (hehi : e0 ≤ 100000) (hnd : 1 ≤ nd) (hnd' : nd ≤ 1000) (hs : -100000 ≤ e0 + nd - 1) (hs' : e0 + nd - 1 ≤ 100000)
    (hN : Calls Tryz.prog 88 #[.pointer (some ⟨D, 0, none⟩)] w fun e w' => e = .returned (.int .i64 nd) ∧ Fr NoB w w') :
    Calls Tryz.prog 42 #[.pointer (some ⟨cb, 0, none⟩), .pointer (some ⟨D, 0, none⟩), .pointer (some ⟨D, 0, none⟩)] w
      fun e w' => e = .returned (.int .u32 0) ∧ DecAt w' D f n e0 cn (.slice A k kc) m ∧ Fr (fun i => i = D) w w' := by
  obtain ⟨⟨h0, h1, h2, h3, h4, h5⟩, f0, f1, f2, f3, f4, f5⟩ := hD.cells
  have HC := hid hC; have HD := hid hD; have HN := hid hN
  obtain ⟨c0, c1, c2, c3, c4⟩ := hC
  clear hN hD
  have hq := fun w => eql51_same ⟨D, 0, none⟩ w
  go_enter Tryz.func42, Tryz.ntmps42
  go_wp2_with (first | (go_at_call 61; go_in) | (go_at_call 99; go_in))
  refine HN.out.mono ?_
  rintro e w1 ⟨rfl, hF⟩
  have HD1 := hid (HD.out.fr hF (fun h => h))
  have HC1 := hid (HC.out.fr hF (fun h => h))
  have HF := hid hF
  clear hF h0 h1 h2 h3 h4 h5 f0 f1 f2 f3 f4 f5 c0 c1 c2 c3 c4
  obtain ⟨⟨h0, h1, h2, h3, h4, h5⟩, f0, f1, f2, f3, f4, f5⟩ := HD1.out.cells
  obtain ⟨c0, c1, c2, c3, c4⟩ := HC1.out
  go_wp2_with (go_at_call 100; refine (decSign_any D f n e0 cn A k kc m w1 HD1.out).mono ?_; rintro e w2 ⟨rfl, rfl⟩)
  have hFa : Fr NoB w1 (w1.alloc (.cells #[.int .i64 e0] 2)) := (Fr.refl _ w1).alloc _
  refine (setExponent_one_given D cb f n e0 cn (.slice A k kc) m nd 0 e0 w1.heap.size 1 _ (HD1.out.fr hFa (fun h => h)) 0 traps r (HC1.out.fr hFa (fun h => h)) (by simp) helo hehi hnd hnd' hs hs' (.inl rfl)).mono ?_
  rintro e w3 ⟨rfl, rfl⟩
  have HFa := hid hFa
  clear hFa h0 h1 h2 h3 h4 h5 f0 f1 f2 f3 f4 f5 c0 c1 c2 c3 c4
  go_wp2
  go_ret
  refine ⟨rfl, (HD1.out.fr HFa.out (fun h => h)).set2 e0, ?_⟩
  refine Fr.setCell (S := fun i => i = D) ?_ (fun _ => rfl) _
  exact ((HF.out.trans HFa.out (fun _ _ h => h)).mono (fun _ _ h => h.elim))
end Go.Proofs.YteokhhepnoelhaaGreatDoor
