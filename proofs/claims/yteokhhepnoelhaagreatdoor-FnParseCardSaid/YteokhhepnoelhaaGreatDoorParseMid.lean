/-
  impl.Parse at a text that is a number by its shape.
-/
import Derived.Test.YteokhhepnoelhaaGreatDoorPrefix
import Derived.Test.YteokhhepnoelhaaGreatDoorPtr
import Derived.Test.YteokhhepnoelhaaGreatDoorSpec1
import Derived.Test.YteokhhepnoelhaaGreatDoorPlainFails
import Derived.Test.YteokhhepnoelhaaGreatDoorBigA
import Derived.Deep.RegionHeld3
import Derived.OwnWalk
import Derived.Test.YteokhhepnoelhaaGreatDoorPlainReads

set_option linter.unusedVariables false
set_option linter.unusedSimpArgs false
namespace Go.Proofs.YteokhhepnoelhaaGreatDoor
open Go.RowKit

/-- A Context in memory that is only read. -/
structure CtxAt (w : World) (c : Nat) (prec maxE minE traps : Int) (r : ByteArray) : Prop where
  c0 : w.cell? ⟨c, 0, none⟩ = some (.int .u32 prec)
  c1 : w.cell? ⟨c, 1, none⟩ = some (.int .i32 maxE)
  c2 : w.cell? ⟨c, 2, none⟩ = some (.int .i32 minE)
  c3 : w.cell? ⟨c, 3, none⟩ = some (.int .u32 traps)
  c4 : w.cell? ⟨c, 4, none⟩ = some (.string r)
theorem CtxAt.fr {w w' : World} {S : Nat → Prop} {c : Nat} {prec maxE minE traps : Int} {r : ByteArray} (h : CtxAt w c prec maxE minE traps r) (hF : Fr S w w') (hS : ¬ S c) : CtxAt w' c prec maxE minE traps r :=
  ⟨hF.cell' h.c0 hS, hF.cell' h.c1 hS, hF.cell' h.c2 hS, hF.cell' h.c3 hS, hF.cell' h.c4 hS⟩

set_option maxRecDepth 100000 in
set_option maxHeartbeats 1000000 in
theorem setExponent_none_given (D cb : Nat) (f : Int) (n : Bool) (e0 : Int) (cn : Bool) (Av : Value) (m : Bool) (nd res : Int) (X cap : Nat) (w : World) (hD : DecAt w D f n e0 cn Av m)
    (prec traps : Int) (r : ByteArray) (hC : CtxAt w cb prec 100000 (-100000) traps r) (hnd : 1 ≤ nd) (hnd' : nd ≤ 1000) (hs : -100000 ≤ nd - 1) (hs' : nd - 1 ≤ 100000) (hres : res = 0 ∨ res = 64 ∨ res = 80) :
    Calls Tryz.prog 60 #[.pointer (some ⟨D, 0, none⟩), .pointer (some ⟨cb, 0, none⟩), .int .i64 nd, .int .u32 res, .slice (some ⟨X, 0, none⟩) 0 cap] w
      fun e w' => e = .returned (.int .u32 res) ∧ w' = w.setCell ⟨D, 2, none⟩ (.int .i32 (0)) := by
  obtain ⟨⟨h0, h1, h2, h3, h4, h5⟩, f0, f1, f2, f3, f4, f5⟩ := hD.cells
  have HC := hid hC
  obtain ⟨c0, c1, c2, c3, c4⟩ := hC
  have hnd1 : (nd == -1) = false := by simp; omega
  clear hD h0 h1 h3 h4 h5 f0 f1 f3 f4 f5
  rcases hres with rfl | rfl | rfl
  all_goals
    go_enter Tryz.func60, Tryz.ntmps60
    go_wp2
    go_rounds 3
    go_ret
    exact ⟨rfl, rfl⟩

set_option maxRecDepth 100000 in
set_option maxHeartbeats 1000000 in
theorem setExponent_none_asked (D cb : Nat) (f : Int) (n : Bool) (e0 : Int) (cn : Bool) (Av : Value) (m : Bool) (nd res : Int) (X cap : Nat) (w : World) (hD : DecAt w D f n e0 cn Av m)
    (prec traps : Int) (r : ByteArray) (hC : CtxAt w cb prec 100000 (-100000) traps r) (hnd : 1 ≤ nd) (hnd' : nd ≤ 1000) (hs : -100000 ≤ nd - 1) (hs' : nd - 1 ≤ 100000) (hres : res = 0 ∨ res = 64 ∨ res = 80) (hN : Calls Tryz.prog 88 #[.pointer (some ⟨D, 0, none⟩)] w fun e w' => e = .returned (.int .i64 nd) ∧ Fr NoB w w') :
    Calls Tryz.prog 60 #[.pointer (some ⟨D, 0, none⟩), .pointer (some ⟨cb, 0, none⟩), .int .i64 (-1), .int .u32 res, .slice (some ⟨X, 0, none⟩) 0 cap] w
      fun e w' => e = .returned (.int .u32 res) ∧ ∃ w1, Fr NoB w w1 ∧ w' = w1.setCell ⟨D, 2, none⟩ (.int .i32 (0)) := by
  obtain ⟨⟨h0, h1, h2, h3, h4, h5⟩, f0, f1, f2, f3, f4, f5⟩ := hD.cells
  have HC := hid hC
  obtain ⟨c0, c1, c2, c3, c4⟩ := hC
  have HN := hid hN
  clear hN hD h0 h1 h3 h4 h5 f0 f1 f3 f4 f5
  rcases hres with rfl | rfl | rfl
  all_goals
    go_enter Tryz.func60, Tryz.ntmps60
    go_wp2_with fail
    refine wp_loop_rounds 3 ?_
    repeat any_goals (rw [rounds_succ]; go_wp2_with fail)
    refine HN.out.mono ?_
    rintro e w1 ⟨rfl, hF⟩
    have k2 := hF.cell' h2 (fun h => h); have g2 := hF.frozen' h2 f2 (fun h => h)
    obtain ⟨d0, d1, d2, d3, d4⟩ := HC.out.fr hF (fun h => h)
    have HF := hid hF; clear hF
    clear h2 f2 c0 c1 c2 c3 c4
    go_wp2
    go_ret
    exact ⟨rfl, w1, HF.out, rfl⟩

set_option maxRecDepth 100000 in
set_option maxHeartbeats 1000000 in
theorem setExponent_one_given (D cb : Nat) (f : Int) (n : Bool) (e0 : Int) (cn : Bool) (Av : Value) (m : Bool) (nd res a : Int) (X cap : Nat) (w : World) (hD : DecAt w D f n e0 cn Av m)
    (prec traps : Int) (r : ByteArray) (hC : CtxAt w cb prec 100000 (-100000) traps r) (hX : w.cell? ⟨X, 0, none⟩ = some (.int .i64 a)) (halo : -100000 ≤ a) (hahi : a ≤ 100000) (hnd : 1 ≤ nd) (hnd' : nd ≤ 1000) (hs : -100000 ≤ a + nd - 1) (hs' : a + nd - 1 ≤ 100000) (hres : res = 0 ∨ res = 64 ∨ res = 80) :
    Calls Tryz.prog 60 #[.pointer (some ⟨D, 0, none⟩), .pointer (some ⟨cb, 0, none⟩), .int .i64 nd, .int .u32 res, .slice (some ⟨X, 0, none⟩) 1 cap] w
      fun e w' => e = .returned (.int .u32 res) ∧ w' = w.setCell ⟨D, 2, none⟩ (.int .i32 (a)) := by
  obtain ⟨⟨h0, h1, h2, h3, h4, h5⟩, f0, f1, f2, f3, f4, f5⟩ := hD.cells
  have HC := hid hC
  obtain ⟨c0, c1, c2, c3, c4⟩ := hC
  have hnd1 : (nd == -1) = false := by simp; omega
  clear hD h0 h1 h3 h4 h5 f0 f1 f3 f4 f5
  rcases hres with rfl | rfl | rfl
  all_goals
    go_enter Tryz.func60, Tryz.ntmps60
    go_wp2
    go_rounds 3
    go_ret
    exact ⟨rfl, rfl⟩

set_option maxRecDepth 100000 in
set_option maxHeartbeats 1000000 in
theorem setExponent_one_asked (D cb : Nat) (f : Int) (n : Bool) (e0 : Int) (cn : Bool) (Av : Value) (m : Bool) (nd res a : Int) (X cap : Nat) (w : World) (hD : DecAt w D f n e0 cn Av m)
    (prec traps : Int) (r : ByteArray) (hC : CtxAt w cb prec 100000 (-100000) traps r) (hX : w.cell? ⟨X, 0, none⟩ = some (.int .i64 a)) (halo : -100000 ≤ a) (hahi : a ≤ 100000) (hnd : 1 ≤ nd) (hnd' : nd ≤ 1000) (hs : -100000 ≤ a + nd - 1) (hs' : a + nd - 1 ≤ 100000) (hres : res = 0 ∨ res = 64 ∨ res = 80) (hN : Calls Tryz.prog 88 #[.pointer (some ⟨D, 0, none⟩)] w fun e w' => e = .returned (.int .i64 nd) ∧ Fr NoB w w') :
    Calls Tryz.prog 60 #[.pointer (some ⟨D, 0, none⟩), .pointer (some ⟨cb, 0, none⟩), .int .i64 (-1), .int .u32 res, .slice (some ⟨X, 0, none⟩) 1 cap] w
      fun e w' => e = .returned (.int .u32 res) ∧ ∃ w1, Fr NoB w w1 ∧ w' = w1.setCell ⟨D, 2, none⟩ (.int .i32 (a)) := by
  obtain ⟨⟨h0, h1, h2, h3, h4, h5⟩, f0, f1, f2, f3, f4, f5⟩ := hD.cells
  have HC := hid hC
  obtain ⟨c0, c1, c2, c3, c4⟩ := hC
  have HN := hid hN
  clear hN hD h0 h1 h3 h4 h5 f0 f1 f3 f4 f5
  rcases hres with rfl | rfl | rfl
  all_goals
    go_enter Tryz.func60, Tryz.ntmps60
    go_wp2_with fail
    refine wp_loop_rounds 3 ?_
    repeat any_goals (rw [rounds_succ]; go_wp2_with fail)
    refine HN.out.mono ?_
    rintro e w1 ⟨rfl, hF⟩
    have k2 := hF.cell' h2 (fun h => h); have g2 := hF.frozen' h2 f2 (fun h => h)
    obtain ⟨d0, d1, d2, d3, d4⟩ := HC.out.fr hF (fun h => h)
    have HF := hid hF; clear hF
    clear h2 f2 c0 c1 c2 c3 c4
    go_wp2
    go_ret
    exact ⟨rfl, w1, HF.out, rfl⟩

set_option maxRecDepth 100000 in
set_option maxHeartbeats 1000000 in
theorem setExponent_two_given (D cb : Nat) (f : Int) (n : Bool) (e0 : Int) (cn : Bool) (Av : Value) (m : Bool) (nd res a b : Int) (X cap : Nat) (w : World) (hD : DecAt w D f n e0 cn Av m)
    (prec traps : Int) (r : ByteArray) (hC : CtxAt w cb prec 100000 (-100000) traps r) (hX : w.cell? ⟨X, 0, none⟩ = some (.int .i64 a)) (hX1 : w.cell? ⟨X, 1, none⟩ = some (.int .i64 b)) (halo : -100000 ≤ a) (hahi : a ≤ 100000) (hblo : -100000 ≤ b) (hbhi : b ≤ 100000) (hablo : -2147483648 ≤ a + b) (habhi : a + b ≤ 2147483647) (hnd : 1 ≤ nd) (hnd' : nd ≤ 1000) (hs : -100000 ≤ a + b + nd - 1) (hs' : a + b + nd - 1 ≤ 100000) (hres : res = 0 ∨ res = 64 ∨ res = 80) :
    Calls Tryz.prog 60 #[.pointer (some ⟨D, 0, none⟩), .pointer (some ⟨cb, 0, none⟩), .int .i64 nd, .int .u32 res, .slice (some ⟨X, 0, none⟩) 2 cap] w
      fun e w' => e = .returned (.int .u32 res) ∧ w' = w.setCell ⟨D, 2, none⟩ (.int .i32 (a + b)) := by
  obtain ⟨⟨h0, h1, h2, h3, h4, h5⟩, f0, f1, f2, f3, f4, f5⟩ := hD.cells
  have HC := hid hC
  obtain ⟨c0, c1, c2, c3, c4⟩ := hC
  have hnd1 : (nd == -1) = false := by simp; omega
  clear hD h0 h1 h3 h4 h5 f0 f1 f3 f4 f5
  rcases hres with rfl | rfl | rfl
  all_goals
    go_enter Tryz.func60, Tryz.ntmps60
    go_wp2
    go_rounds 3
    go_ret
    exact ⟨rfl, rfl⟩

set_option maxRecDepth 100000 in
set_option maxHeartbeats 1000000 in
theorem setExponent_two_asked (D cb : Nat) (f : Int) (n : Bool) (e0 : Int) (cn : Bool) (Av : Value) (m : Bool) (nd res a b : Int) (X cap : Nat) (w : World) (hD : DecAt w D f n e0 cn Av m)
    (prec traps : Int) (r : ByteArray) (hC : CtxAt w cb prec 100000 (-100000) traps r) (hX : w.cell? ⟨X, 0, none⟩ = some (.int .i64 a)) (hX1 : w.cell? ⟨X, 1, none⟩ = some (.int .i64 b)) (halo : -100000 ≤ a) (hahi : a ≤ 100000) (hblo : -100000 ≤ b) (hbhi : b ≤ 100000) (hablo : -2147483648 ≤ a + b) (habhi : a + b ≤ 2147483647) (hnd : 1 ≤ nd) (hnd' : nd ≤ 1000) (hs : -100000 ≤ a + b + nd - 1) (hs' : a + b + nd - 1 ≤ 100000) (hres : res = 0 ∨ res = 64 ∨ res = 80) (hN : Calls Tryz.prog 88 #[.pointer (some ⟨D, 0, none⟩)] w fun e w' => e = .returned (.int .i64 nd) ∧ Fr NoB w w') :
    Calls Tryz.prog 60 #[.pointer (some ⟨D, 0, none⟩), .pointer (some ⟨cb, 0, none⟩), .int .i64 (-1), .int .u32 res, .slice (some ⟨X, 0, none⟩) 2 cap] w
      fun e w' => e = .returned (.int .u32 res) ∧ ∃ w1, Fr NoB w w1 ∧ w' = w1.setCell ⟨D, 2, none⟩ (.int .i32 (a + b)) := by
  obtain ⟨⟨h0, h1, h2, h3, h4, h5⟩, f0, f1, f2, f3, f4, f5⟩ := hD.cells
  have HC := hid hC
  obtain ⟨c0, c1, c2, c3, c4⟩ := hC
  have HN := hid hN
  clear hN hD h0 h1 h3 h4 h5 f0 f1 f3 f4 f5
  rcases hres with rfl | rfl | rfl
  all_goals
    go_enter Tryz.func60, Tryz.ntmps60
    go_wp2_with fail
    refine wp_loop_rounds 3 ?_
    repeat any_goals (rw [rounds_succ]; go_wp2_with fail)
    refine HN.out.mono ?_
    rintro e w1 ⟨rfl, hF⟩
    have k2 := hF.cell' h2 (fun h => h); have g2 := hF.frozen' h2 f2 (fun h => h)
    obtain ⟨d0, d1, d2, d3, d4⟩ := HC.out.fr hF (fun h => h)
    have HF := hid hF; clear hF
    clear h2 f2 c0 c1 c2 c3 c4
    go_wp2
    go_ret
    exact ⟨rfl, w1, HF.out, rfl⟩

end Go.Proofs.YteokhhepnoelhaaGreatDoor

set_option linter.unusedVariables false
set_option linter.unusedSimpArgs false
namespace Go.Proofs.YteokhhepnoelhaaGreatDoor
open Go.RowKit

def bigSign (cn : Bool) (k : Nat) (m : Bool) : Int := if m then -1 else if k = 0 then 0 else if cn then -1 else 1
def decSign (f : Int) (n cn : Bool) (k : Nat) (m : Bool) : Int := if f = 0 ∧ bigSign cn k m = 0 then 0 else if n then -1 else 1

theorem bigSign_any (D o : Nat) (cn : Bool) (A : Option Addr) (k kc : Nat) (m : Bool) (w : World) (h3 : w.cell? ⟨D, o, none⟩ = some (.bool cn)) (h4 : w.cell? ⟨D, o + 1, none⟩ = some (.slice A k kc)) (h5 : w.cell? ⟨D, o + 2, none⟩ = some (.bool m)) :
    Calls Tryz.prog 103 #[.pointer (some ⟨D, o, none⟩)] w fun e w' => e = .returned (.int .i64 (bigSign cn k m)) ∧ w = w' := by
  cases m with
  | true =>
    go_enter Tryz.func103, Tryz.ntmps103
    go_wp2
    go_ret
    exact ⟨rfl, rfl⟩
  | false =>
    by_cases hk : k = 0
    · subst hk
      go_enter Tryz.func103, Tryz.ntmps103
      go_wp2
      go_ret
      exact ⟨rfl, rfl⟩
    · have hk0 : ((k : Int) == 0) = false := by simp; omega
      have hk' : bigSign cn k false = if cn then -1 else 1 := by simp [bigSign, hk]
      have HK := hid hk'
      clear hk'
      cases cn with
      | true =>
        go_enter Tryz.func103, Tryz.ntmps103
        go_wp2
        go_ret
        exact ⟨by rw [HK.out]; rfl, rfl⟩
      | false =>
        go_enter Tryz.func103, Tryz.ntmps103
        go_wp2
        go_ret
        exact ⟨by rw [HK.out]; rfl, rfl⟩

theorem decSign_any (D : Nat) (f : Int) (n : Bool) (e0 : Int) (cn : Bool) (A : Option Addr) (k kc : Nat) (m : Bool) (w : World) (hD : DecAt w D f n e0 cn (.slice A k kc) m) :
    Calls Tryz.prog 100 #[.pointer (some ⟨D, 0, none⟩)] w fun e w' => e = .returned (.int .i64 (decSign f n cn k m)) ∧ w = w' := by
  obtain ⟨⟨h0, h1, h2, h3, h4, h5⟩, f0, f1, f2, f3, f4, f5⟩ := hD.cells
  have HS := hid (bigSign_any D 3 cn A k kc m w h3 h4 h5)
  clear hD h2 h3 h4 h5 f0 f1 f2 f3 f4 f5
  by_cases hf : f = 0
  · subst hf
    by_cases hb : bigSign cn k m = 0
    · have hd : decSign 0 n cn k m = 0 := by simp [decSign, hb]
      have H := hid hd
      clear hd
      rw [hb] at HS
      clear hb
      go_enter Tryz.func100, Tryz.ntmps100
      go_wp2_with (go_at_call 103; refine HS.out.mono ?_; rintro e w1 ⟨rfl, rfl⟩)
      go_ret
      exact ⟨by rw [H.out]; rfl, rfl⟩
    · have hd : decSign 0 n cn k m = if n then -1 else 1 := by simp [decSign, hb]
      have H := hid hd
      clear hd
      have hb0 : (bigSign cn k m == 0) = false := by simpa using hb
      generalize bigSign cn k m = s at *
      cases n with
      | true =>
        go_enter Tryz.func100, Tryz.ntmps100
        go_wp2_with (go_at_call 103; refine HS.out.mono ?_; rintro e w1 ⟨rfl, rfl⟩)
        go_ret
        exact ⟨by rw [H.out]; rfl, rfl⟩
      | false =>
        go_enter Tryz.func100, Tryz.ntmps100
        go_wp2_with (go_at_call 103; refine HS.out.mono ?_; rintro e w1 ⟨rfl, rfl⟩)
        go_ret
        exact ⟨by rw [H.out]; rfl, rfl⟩
  · have hd : decSign f n cn k m = if n then -1 else 1 := by simp [decSign, hf]
    have H := hid hd
    clear hd
    have hf0 : (f == 0) = false := by simpa using hf
    cases n with
    | true =>
      go_enter Tryz.func100, Tryz.ntmps100
      go_wp2_with fail
      go_ret
      exact ⟨by rw [H.out]; rfl, rfl⟩
    | false =>
      go_enter Tryz.func100, Tryz.ntmps100
      go_wp2_with fail
      go_ret
      exact ⟨by rw [H.out]; rfl, rfl⟩

set_option maxRecDepth 100000 in
set_option maxHeartbeats 1000000 in
theorem round_zero (D cb : Nat) (f : Int) (n : Bool) (e0 : Int) (cn : Bool) (A : Option Addr) (k kc : Nat) (m : Bool) (nd : Int) (w : World) (hD : DecAt w D f n e0 cn (.slice A k kc) m)
    (traps : Int) (r : ByteArray) (hC : CtxAt w cb 0 100000 (-100000) traps r) (helo : -100000 ≤ e0) (hehi : e0 ≤ 100000) (hnd : 1 ≤ nd) (hnd' : nd ≤ 1000) (hs : -100000 ≤ e0 + nd - 1) (hs' : e0 + nd - 1 ≤ 100000)
    (hN : Calls Tryz.prog 88 #[.pointer (some ⟨D, 0, none⟩)] w fun e w' => e = .returned (.int .i64 nd) ∧ Fr NoB w w') :
    Calls Tryz.prog 42 #[.pointer (some ⟨cb, 0, none⟩), .pointer (some ⟨D, 0, none⟩), .pointer (some ⟨D, 0, none⟩)] w
      fun e w' => e = .returned (.int .u32 0) ∧ DecAt w' D f n e0 cn (.slice A k kc) m ∧ Fr (fun i => i = D) w w' := by
  obtain ⟨⟨h0, h1, h2, h3, h4, h5⟩, f0, f1, f2, f3, f4, f5⟩ := hD.cells
  have HC := hid hC; have HD := hid hD; have HN := hid hN
  obtain ⟨c0, c1, c2, c3, c4⟩ := hC
  clear hN hD
  have hq := fun w => eql51_same ⟨D, 0, none⟩ w
  go_enter Tryz.func42, Tryz.ntmps42
  go_wp2_with (first | (go_at_call 61; go_in) | (go_at_call 99; go_in))
  refine HN.out.mono ?_
  rintro e w1 ⟨rfl, hF⟩
  have HD1 := hid (HD.out.fr hF (fun h => h))
  have HC1 := hid (HC.out.fr hF (fun h => h))
  have HF := hid hF
  clear hF h0 h1 h2 h3 h4 h5 f0 f1 f2 f3 f4 f5 c0 c1 c2 c3 c4
  obtain ⟨⟨h0, h1, h2, h3, h4, h5⟩, f0, f1, f2, f3, f4, f5⟩ := HD1.out.cells
  obtain ⟨c0, c1, c2, c3, c4⟩ := HC1.out
  go_wp2_with (go_at_call 100; refine (decSign_any D f n e0 cn A k kc m w1 HD1.out).mono ?_; rintro e w2 ⟨rfl, rfl⟩)
  have hFa : Fr NoB w1 (w1.alloc (.cells #[.int .i64 e0] 2)) := (Fr.refl _ w1).alloc _
  refine (setExponent_one_given D cb f n e0 cn (.slice A k kc) m nd 0 e0 w1.heap.size 1 _ (HD1.out.fr hFa (fun h => h)) 0 traps r (HC1.out.fr hFa (fun h => h)) (by simp) helo hehi hnd hnd' hs hs' (.inl rfl)).mono ?_
  rintro e w3 ⟨rfl, rfl⟩
  have HFa := hid hFa
  clear hFa h0 h1 h2 h3 h4 h5 f0 f1 f2 f3 f4 f5 c0 c1 c2 c3 c4
  go_wp2
  go_ret
  refine ⟨rfl, (HD1.out.fr HFa.out (fun h => h)).set2 e0, ?_⟩
  refine Fr.setCell (S := fun i => i = D) ?_ (fun _ => rfl) _
  exact ((HF.out.trans HFa.out (fun _ _ h => h)).mono (fun _ _ h => h.elim))
end Go.Proofs.YteokhhepnoelhaaGreatDoor

set_option linter.unusedVariables false
set_option linter.unusedSimpArgs false
namespace Go.Proofs.YteokhhepnoelhaaGreatDoor
open Go.RowKit

theorem numDigits_zero (D : Nat) (f : Int) (n : Bool) (e0 : Int) (cn : Bool) (A : Option Addr) (kc : Nat) (m : Bool) (w : World) (hD : DecAt w D f n e0 cn (.slice A 0 kc) m) :
    Calls Tryz.prog 88 #[.pointer (some ⟨D, 0, none⟩)] w fun e w' => e = .returned (.int .i64 1) ∧ w = w' := by
  obtain ⟨⟨h0, h1, h2, h3, h4, h5⟩, f0, f1, f2, f3, f4, f5⟩ := hD.cells
  go_enter Tryz.func88, Tryz.ntmps88
  go_wp2
  go_ret
  exact ⟨rfl, rfl⟩

/-- What setString leaves, at SetString's call: as SpecialEnd. -/
theorem ctxSetString_special (D cb : Nat) (l : List UInt8) (F : Int) (neg : Bool) (w : World) (traps : Int) (r : ByteArray) (hC : CtxAt w cb 0 100000 (-100000) traps r) (hne : cb ≠ D)
    (hS : Calls Tryz.prog 41 #[.pointer (some ⟨D, 0, none⟩), .pointer (some ⟨cb, 0, none⟩), .string ⟨l.toArray⟩] w (SpecialEnd w D F neg)) :
    Calls Tryz.prog 30 #[.pointer (some ⟨cb, 0, none⟩), .pointer (some ⟨D, 0, none⟩), .string ⟨l.toArray⟩] w
      fun e w' => e = .returned (.tuple #[.pointer (some ⟨D, 0, none⟩), .int .u32 0, .nilIface]) ∧ DecAt w' D F neg 0 false (.slice none 0 0) false ∧ Fr (fun i => i = D) w w' := by
  have HC := hid hC; have HS := hid hS
  clear hC hS
  go_enter Tryz.func30, Tryz.ntmps30
  go_wp2_with fail
  refine HS.out.mono ?_
  rintro e w1 ⟨rfl, hD1, hF1⟩
  have HC1 := hid (HC.out.fr hF1 hne)
  have HD1 := hid hD1; have HF1 := hid hF1
  clear hD1 hF1
  go_wp2_with fail
  refine (round_zero D cb F neg 0 false none 0 0 false 1 w1 HD1.out traps r HC1.out (by omega) (by omega) (by omega) (by omega) (by omega) (by omega)
    ((numDigits_zero D F neg 0 false none 0 false w1 HD1.out).mono fun e w' ⟨he, hw⟩ => ⟨he, by subst hw; exact Fr.refl _ _⟩)).mono ?_
  rintro e w2 ⟨rfl, hD2, hF2⟩
  have HD2 := hid hD2; have HF2 := hid hF2
  clear hD2 hF2
  go_wp2_with (go_at_call 43; go_in)
  go_ret3
  exact ⟨rfl, HD2.out, HF1.out.trans HF2.out (fun _ _ h => h)⟩

abbrev condArr : Value := .agg #[.int .u32 4, .int .u32 8, .int .u32 16, .int .u32 32, .int .u32 64, .int .u32 128, .int .u32 256, .int .u32 512, .int .u32 1024, .int .u32 2048, .int .u32 1, .int .u32 2]

set_option maxRecDepth 100000 in
set_option maxHeartbeats 1000000 in
theorem conditions_0 (w : World) : Calls Tryz.prog 24 #[.int .u32 0] w fun e w' => e = .returned (.int .i64 0) ∧ w = w' := by
  have i0 : ∀ w, (Instr.index 86 condArr (.int .i64 0)).run Tryz.prog w = .ok (.int .u32 4) w := fun _ => by kernel_rfl
  have i1 : ∀ w, (Instr.index 86 condArr (.int .i64 1)).run Tryz.prog w = .ok (.int .u32 8) w := fun _ => by kernel_rfl
  have i2 : ∀ w, (Instr.index 86 condArr (.int .i64 2)).run Tryz.prog w = .ok (.int .u32 16) w := fun _ => by kernel_rfl
  have i3 : ∀ w, (Instr.index 86 condArr (.int .i64 3)).run Tryz.prog w = .ok (.int .u32 32) w := fun _ => by kernel_rfl
  have i4 : ∀ w, (Instr.index 86 condArr (.int .i64 4)).run Tryz.prog w = .ok (.int .u32 64) w := fun _ => by kernel_rfl
  have i5 : ∀ w, (Instr.index 86 condArr (.int .i64 5)).run Tryz.prog w = .ok (.int .u32 128) w := fun _ => by kernel_rfl
  have i6 : ∀ w, (Instr.index 86 condArr (.int .i64 6)).run Tryz.prog w = .ok (.int .u32 256) w := fun _ => by kernel_rfl
  have i7 : ∀ w, (Instr.index 86 condArr (.int .i64 7)).run Tryz.prog w = .ok (.int .u32 512) w := fun _ => by kernel_rfl
  have i8 : ∀ w, (Instr.index 86 condArr (.int .i64 8)).run Tryz.prog w = .ok (.int .u32 1024) w := fun _ => by kernel_rfl
  have i9 : ∀ w, (Instr.index 86 condArr (.int .i64 9)).run Tryz.prog w = .ok (.int .u32 2048) w := fun _ => by kernel_rfl
  have i10 : ∀ w, (Instr.index 86 condArr (.int .i64 10)).run Tryz.prog w = .ok (.int .u32 1) w := fun _ => by kernel_rfl
  have i11 : ∀ w, (Instr.index 86 condArr (.int .i64 11)).run Tryz.prog w = .ok (.int .u32 2) w := fun _ => by kernel_rfl
  go_enter Tryz.func24, Tryz.ntmps24
  go_wp2
  go_rounds 13
  go_ret
  exact ⟨rfl, rfl⟩

set_option maxRecDepth 100000 in
set_option maxHeartbeats 1000000 in
theorem told_special (D : Nat) (F : Int) (hFF : F = 1 ∨ F = 2 ∨ F = 3) (neg : Bool) (w : World) (hD : DecAt w D F neg 0 false (.slice none 0 0) false) :
    Calls Tryz.prog 25 #[.pointer (some ⟨D, 0, none⟩)] w fun e w' => e = .returned (.agg #[.int .i64 F, .bool neg, .slice none 0 0, .int .i64 0]) ∧ Fr NoB w w' := by
  obtain ⟨⟨h0, h1, h2, h3, h4, h5⟩, f0, f1, f2, f3, f4, f5⟩ := hD.cells
  have hlt := blk_lt hD
  clear hD
  rcases hFF with rfl | rfl | rfl
  all_goals
    go_enter Tryz.func25, Tryz.ntmps25
    go_wp2
    go_returns
    exact ⟨rfl, ((Fr.refl _ _).alloc _).alloc _⟩

set_option maxRecDepth 100000 in
set_option maxHeartbeats 1000000 in
theorem parse_special (l : List UInt8) (F : Int) (hFF : F = 1 ∨ F = 2 ∨ F = 3) (neg : Bool) (w : World) (r : ByteArray) (hC : CtxAt w 0 0 100000 (-100000) 1967 r)
    (hS : ∀ (D : Nat) (w1 : World), DecAt w1 D 0 false 0 false (.slice none 0 0) false → Fr NoB w w1 → w.heap.size ≤ D → Calls Tryz.prog 41 #[.pointer (some ⟨D, 0, none⟩), .pointer (some ⟨0, 0, none⟩), .string ⟨l.toArray⟩] w1 (SpecialEnd w1 D F neg)) :
    Calls Tryz.prog 9 #[.string ⟨l.toArray⟩] w
      fun e w' => e = .returned (.tuple #[.agg #[.int .i64 F, .bool neg, .slice none 0 0, .int .i64 0], .int .i64 0, .bool true]) ∧ Fr NoB w w' := by
  have HC := hid hC; have HS := hid hS
  clear hC hS
  have h0 : (0 : Nat) < w.heap.size := World.block_lt_of_cell? w ⟨0, 0, none⟩ HC.out.c0
  go_enter Tryz.func9, Tryz.ntmps9
  go_wp2_with (first | (go_at_call 23; go_in) | (go_at_call 37; go_in))
  have hR0 : ((w.alloc (.cells #[.int .i64 0, .bool false, .slice none 0 0, .int .i64 0] 30)).alloc (.cells #[.int .i8 0, .bool false, .int .i32 0, .bool false, .slice none 0 0, .bool false] 72)).heap[w.heap.size]? = some (.cells #[.int .i64 0, .bool false, .slice none 0 0, .int .i64 0] 30 (0, 0)) :=
    blk_alloc (blk_new w _) _
  have hD0 : DecAt ((w.alloc (.cells #[.int .i64 0, .bool false, .slice none 0 0, .int .i64 0] 30)).alloc (.cells #[.int .i8 0, .bool false, .int .i32 0, .bool false, .slice none 0 0, .bool false] 72)) (w.heap.size + 1) 0 false 0 false (.slice none 0 0) false := by
    have := blk_new (w.alloc (.cells #[.int .i64 0, .bool false, .slice none 0 0, .int .i64 0] 30)) (.cells #[.int .i8 0, .bool false, .int .i32 0, .bool false, .slice none 0 0, .bool false] 72 (0, 0))
    rw [World.size_alloc] at this
    exact this
  have hF0 : Fr NoB w ((w.alloc (.cells #[.int .i64 0, .bool false, .slice none 0 0, .int .i64 0] 30)).alloc (.cells #[.int .i8 0, .bool false, .int .i32 0, .bool false, .slice none 0 0, .bool false] 72)) :=
    ((Fr.refl _ _).alloc _).alloc _
  have HR0 := hid hR0; have HD0 := hid hD0; have HF0 := hid hF0
  clear hR0 hD0 hF0
  generalize hW : ((w.alloc (.cells #[.int .i64 0, .bool false, .slice none 0 0, .int .i64 0] 30)).alloc (.cells #[.int .i8 0, .bool false, .int .i32 0, .bool false, .slice none 0 0, .bool false] 72)) = W at *
  clear hW
  refine (ctxSetString_special (w.heap.size + 1) 0 l F neg W 1967 r (HC.out.fr HF0.out (fun h => h)) (by omega) (HS.out _ _ HD0.out HF0.out (by omega))).mono ?_
  rintro e w1 ⟨rfl, hD1, hF1⟩
  have HR1 := hid (hF1.blk HR0.out (by omega))
  have HD1 := hid hD1
  have HF1 := hid ((HF0.out.trans hF1 (fun i hi h => by omega) : Fr NoB w w1))
  clear hD1 hF1
  go_wp2_with fail
  refine (told_special _ F hFF neg _ HD1.out).mono ?_
  rintro e w2 ⟨rfl, hF2⟩
  have hR2 := hF2.blk HR1.out (fun h => h)
  have HF2 := hid (HF1.out.trans hF2 (fun _ _ h => h))
  have r0 := blk_cell hR2 0; have r1 := blk_cell hR2 1; have r2 := blk_cell hR2 2; have r3 := blk_cell hR2 3
  have g0 := blk_frozen hR2 0; have g1 := blk_frozen hR2 1; have g2 := blk_frozen hR2 2; have g3 := blk_frozen hR2 3
  clear hF2 hR2
  simp only [List.getElem?_toArray, List.getElem?_cons_zero, List.getElem?_cons_succ] at r0 r1 r2 r3
  go_wp2_with (go_at_call 24; refine (conditions_0 _).mono ?_; rintro e w3 ⟨rfl, rfl⟩)
  refine bodyPost_ret (v := .tuple #[.agg #[.int .i64 F, .bool neg, .slice none 0 0, .int .i64 0], .int .i64 0, .bool true]) (by simp [results, Tryz.results9, go_sem, r0, r1, r2, r3]) rfl ⟨rfl, ?_⟩
  have hS : ∀ i, w.heap.size ≤ i → i < w.heap.size → NoB i := fun i h h' => by omega
  exact (((HF2.out.setCell (fun h => hS _ (Nat.le_refl _) h) _).setCell (fun h => hS _ (Nat.le_refl _) h) _).setCell (fun h => hS _ (Nat.le_refl _) h) _).setCell (fun h => hS _ (Nat.le_refl _) h) _
end Go.Proofs.YteokhhepnoelhaaGreatDoor

set_option linter.unusedVariables false
set_option linter.unusedSimpArgs false
namespace Go.Proofs.YteokhhepnoelhaaGreatDoor
open Go.RowKit

/-- What the laid variables hold. -/
structure Vars (w : World) (a : Addr) (tpS tpR : TypeId) (pS pR : Value) (r : ByteArray) : Prop where
  ctx : CtxAt w 0 0 100000 (-100000) 1967 r
  cse : Lib.CaseVar 1 Lib.caseA w
  u8 : Lib.Utf8Tabs 6 7 w
  eof : EofAt w a
  eS : w.var? Tryz.prog "strconv.ErrSyntax" = some #[.iface tpS pS]
  eR : w.var? Tryz.prog "strconv.ErrRange" = some #[.iface tpR pR]

theorem ctxSetString_fail (D cb : Nat) (l : List UInt8) (w : World) (hS : Calls Tryz.prog 41 #[.pointer (some ⟨D, 0, none⟩), .pointer (some ⟨cb, 0, none⟩), .string ⟨l.toArray⟩] w (FailEnd w D)) :
    Calls Tryz.prog 30 #[.pointer (some ⟨cb, 0, none⟩), .pointer (some ⟨D, 0, none⟩), .string ⟨l.toArray⟩] w
      fun e w' => (∃ p, e = .returned (.tuple #[.pointer none, .int .u32 0, .iface 147 (.pointer (some p))])) ∧ Fr (fun i => i = D) w w' := by
  have HS := hid hS
  clear hS
  go_enter Tryz.func30, Tryz.ntmps30
  go_wp2_with fail
  refine HS.out.mono ?_
  rintro e w1 ⟨⟨p, rfl⟩, hF1⟩
  have HF1 := hid hF1
  clear hF1
  go_wp2_with fail
  go_ret3
  exact ⟨⟨_, rfl⟩, HF1.out⟩

set_option maxRecDepth 100000 in
set_option maxHeartbeats 1000000 in
theorem parse_fail (l : List UInt8) (w : World)
    (hS : ∀ (D : Nat) (w1 : World), DecAt w1 D 0 false 0 false (.slice none 0 0) false → Fr NoB w w1 → w.heap.size ≤ D → Calls Tryz.prog 41 #[.pointer (some ⟨D, 0, none⟩), .pointer (some ⟨0, 0, none⟩), .string ⟨l.toArray⟩] w1 (FailEnd w1 D)) :
    Calls Tryz.prog 9 #[.string ⟨l.toArray⟩] w
      fun e w' => e = .returned (.tuple #[.agg #[.int .i64 0, .bool false, .slice none 0 0, .int .i64 0], .int .i64 0, .bool false]) ∧ Fr NoB w w' := by
  have HS := hid hS
  clear hS
  go_enter Tryz.func9, Tryz.ntmps9
  go_wp2_with (first | (go_at_call 23; go_in) | (go_at_call 37; go_in))
  have hR0 : ((w.alloc (.cells #[.int .i64 0, .bool false, .slice none 0 0, .int .i64 0] 30)).alloc (.cells #[.int .i8 0, .bool false, .int .i32 0, .bool false, .slice none 0 0, .bool false] 72)).heap[w.heap.size]? = some (.cells #[.int .i64 0, .bool false, .slice none 0 0, .int .i64 0] 30 (0, 0)) :=
    blk_alloc (blk_new w _) _
  have hD0 : DecAt ((w.alloc (.cells #[.int .i64 0, .bool false, .slice none 0 0, .int .i64 0] 30)).alloc (.cells #[.int .i8 0, .bool false, .int .i32 0, .bool false, .slice none 0 0, .bool false] 72)) (w.heap.size + 1) 0 false 0 false (.slice none 0 0) false := by
    have := blk_new (w.alloc (.cells #[.int .i64 0, .bool false, .slice none 0 0, .int .i64 0] 30)) (.cells #[.int .i8 0, .bool false, .int .i32 0, .bool false, .slice none 0 0, .bool false] 72 (0, 0))
    rw [World.size_alloc] at this
    exact this
  have hF0 : Fr NoB w ((w.alloc (.cells #[.int .i64 0, .bool false, .slice none 0 0, .int .i64 0] 30)).alloc (.cells #[.int .i8 0, .bool false, .int .i32 0, .bool false, .slice none 0 0, .bool false] 72)) :=
    ((Fr.refl _ _).alloc _).alloc _
  have HR0 := hid hR0; have HD0 := hid hD0; have HF0 := hid hF0
  clear hR0 hD0 hF0
  generalize hW : ((w.alloc (.cells #[.int .i64 0, .bool false, .slice none 0 0, .int .i64 0] 30)).alloc (.cells #[.int .i8 0, .bool false, .int .i32 0, .bool false, .slice none 0 0, .bool false] 72)) = W at *
  clear hW
  refine (ctxSetString_fail (w.heap.size + 1) 0 l W (HS.out _ _ HD0.out HF0.out (by omega))).mono ?_
  rintro e w1 ⟨⟨p, rfl⟩, hF1⟩
  have hR1 := hF1.blk HR0.out (by omega)
  have HF1 := hid ((HF0.out.trans hF1 (fun i hi h => by omega) : Fr NoB w w1))
  have r0 := blk_cell hR1 0; have r1 := blk_cell hR1 1; have r2 := blk_cell hR1 2; have r3 := blk_cell hR1 3
  have g0 := blk_frozen hR1 0; have g1 := blk_frozen hR1 1; have g2 := blk_frozen hR1 2; have g3 := blk_frozen hR1 3
  clear hF1 hR1
  simp only [List.getElem?_toArray, List.getElem?_cons_zero, List.getElem?_cons_succ] at r0 r1 r2 r3
  go_wp2_with (go_at_call 24; refine (conditions_0 _).mono ?_; rintro e w3 ⟨rfl, rfl⟩)
  refine bodyPost_ret (v := .tuple #[.agg #[.int .i64 0, .bool false, .slice none 0 0, .int .i64 0], .int .i64 0, .bool false]) (by simp [results, Tryz.results9, go_sem, r0, r1, r2, r3]) rfl ⟨rfl, ?_⟩
  have hS : ∀ i, w.heap.size ≤ i → i < w.heap.size → NoB i := fun i h h' => by omega
  exact (((HF1.out.setCell (fun h => hS _ (Nat.le_refl _) h) _).setCell (fun h => hS _ (Nat.le_refl _) h) _).setCell (fun h => hS _ (Nat.le_refl _) h) _).setCell (fun h => hS _ (Nat.le_refl _) h) _

theorem var_keep {w w' : World} {n : String} {g : Nat} {cs : Array Value} (hg : Tryz.prog.globalNamed n = some g) (hb : Below w.heap.size w w') (hlt : g < w.heap.size) (hv : w.var? Tryz.prog n = some cs) : w'.var? Tryz.prog n = some cs := by
  unfold World.var? at hv ⊢
  simp only [hg, Option.bind_some] at hv ⊢
  rw [hb.block g hlt]
  exact hv

theorem Vars.below {w w' : World} {a : Addr} {tpS tpR : TypeId} {pS pR : Value} {r : ByteArray} (h : Vars w a tpS tpR pS pR r) (hb : Below w.heap.size w w') : Vars w' a tpS tpR pS pR r := by
  have h5 : 5 < w.heap.size := h.eof.lt
  have hF : Fr NoB w w' := Fr.of_below hb _
  exact ⟨h.ctx.fr hF (fun h => h), Lib.CaseVar_below h.cse hb, Utf8Tabs_below h.u8 hb, hF.cell' h.eof (fun h => h),
    var_keep (n := "strconv.ErrSyntax") (g := 2) (by kernel_rfl) hb (by omega) h.eS, var_keep (n := "strconv.ErrRange") (g := 3) (by kernel_rfl) hb (by omega) h.eR⟩

theorem lowerAt (D : Nat) (n0 : Bool) (l : List UInt8) (w0 w : World) {a : Addr} {tpS tpR : TypeId} {pS pR : Value} {r : ByteArray} (hV : Vars w0 a tpS tpR pS pR r) (hF : Fr NoB w0 w) (hD : w0.heap.size ≤ D) (hl : l.length ≤ 1000) :
    LowerAt w D l (Lib.toLowerD (unsign l)) := by
  unfold LowerAt
  have hF2 : Fr (fun i => i = D) w0 (w.setCell ⟨D, 1, none⟩ (.bool (Lib.hasPrefix l [45]))) := (hF.mono (S' := fun i => i = D) (fun _ _ h => h.elim)).setCell (p := ⟨D, 1, none⟩) (fun _ => rfl) _
  have hV2 := hV.below (hF2.to_below (Nat.le_refl _) (fun i hi h => by have : i = D := h; omega))
  have hul := unsign_len l
  exact (Tryz.strings_ToLower_any ⟨(unsign l).toArray⟩ _ (by rw [str_size]; omega) hV2.cse hV2.u8).mono fun e w' ⟨he, hb⟩ => ⟨he, Fr.of_below hb _⟩

/-- setString fails at a text that the law's guards let in. -/
theorem setString_bad (D : Nat) (l : List UInt8) (w0 w : World) {a : Addr} {tpS tpR : TypeId} {pS pR : Value} {r : ByteArray} (hV : Vars w0 a tpS tpR pS pR r) (hF : Fr NoB w0 w) (hDg : w0.heap.size ≤ D) (hl : l.length ≤ 60)
    (hD : DecAt w D 0 false 0 false (.slice none 0 0) false) (hn : ∀ b ∈ l, b.toNat ≠ 110 ∧ b.toNat ≠ 78) (hg : (∃ b ∈ l, OddB b) ∨ ∀ b ∈ l, ¬ figB b) :
    Calls Tryz.prog 41 #[.pointer (some ⟨D, 0, none⟩), .pointer (some ⟨0, 0, none⟩), .string ⟨l.toArray⟩] w (FailEnd w D) := by
  have hT := lowerAt D false l w0 w hV hF hDg (by omega)
  have h5 := hV.eof.lt
  cases hs1 : Lib.hasPrefix (Lib.toLowerD (unsign l)) [45] with
  | true => exact setString_sign D 0 false l _ w hD hT (by omega) (.inl hs1)
  | false =>
    cases hs2 : Lib.hasPrefix (Lib.toLowerD (unsign l)) [43] with
    | true => exact setString_sign D 0 false l _ w hD hT (by omega) (.inr hs2)
    | false =>
      have hVx : ∀ wx, Fr (fun i => i = D) w wx → Vars wx a tpS tpR pS pR r := fun wx hx =>
        hV.below (((hF.mono (S' := fun i => i = D) (fun _ _ h => h.elim)).trans hx (fun _ _ h => h)).to_below (Nat.le_refl _) (fun i hi h => by have : i = D := h; omega))
      have hul := unsign_len l
      have hll := lower_len _ (unsign l) (Nat.le_refl _)
      have hRN := reads_none l hg
      refine (setString_num D 0 false l _ w hD hT (by omega) hs1 hs2 (no_n l hn) (by omega) tpS tpR pS pR (fun wx hx => (hVx wx hx).eS) (fun wx hx => (hVx wx hx).eR) (by omega) a (hVx w (Fr.refl _ _)).eof ?_).mono ?_
      · intro ds es v X w1 h
        rw [hRN] at h
        cases h
      · intro e w' h
        unfold NumEnd at h
        rw [hRN] at h
        exact h

/-- impl.Parse at such a text: none. -/
theorem parse_bad (l : List UInt8) (w : World) {a : Addr} {tpS tpR : TypeId} {pS pR : Value} {r : ByteArray} (hV : Vars w a tpS tpR pS pR r) (hl : l.length ≤ 60)
    (hn : ∀ b ∈ l, b.toNat ≠ 110 ∧ b.toNat ≠ 78) (hg : (∃ b ∈ l, OddB b) ∨ ∀ b ∈ l, ¬ figB b) :
    Calls Tryz.prog 9 #[.string ⟨l.toArray⟩] w
      fun e w' => e = .returned (.tuple #[.agg #[.int .i64 0, .bool false, .slice none 0 0, .int .i64 0], .int .i64 0, .bool false]) ∧ Fr NoB w w' :=
  parse_fail l w (fun D w1 hD hF hge => setString_bad D l w w1 hV hF hge hl hD hn hg)
end Go.Proofs.YteokhhepnoelhaaGreatDoor

set_option linter.unusedVariables false
set_option linter.unusedSimpArgs false
namespace Go.Proofs.YteokhhepnoelhaaGreatDoor
open Go.RowKit

theorem intExpDoor (Z oz X ox Y oy : Nat) (cs : Array Value) (t : TypeId) (n0 : Bool) (vx vy : Value) (self : Bool) (k : Nat) (w : World) (hZ : BlkAt w Z cs t) (h0 : cs[oz]? = some (.bool n0)) (h1 : cs[oz + 1]? = some (if self then vx else .slice none 0 0))
    (x0 : w.cell? ⟨X, ox, none⟩ = some (.bool false)) (x1 : w.cell? ⟨X, ox + 1, none⟩ = some vx) (y0 : w.cell? ⟨Y, oy, none⟩ = some (.bool false)) (y1 : w.cell? ⟨Y, oy + 1, none⟩ = some vy)
    (hx : NatAt w vx [10]) (hy : NatAt w vy [k]) (hT : Thr w) (hk : 1 ≤ k) (hk' : k ≤ 100) (hXZ : (X = Z ∧ ox = oz) ∨ X ≠ Z) :
    Calls Tryz.prog 207 #[.pointer (some ⟨Z, oz, none⟩), .pointer (some ⟨X, ox, none⟩), .pointer (some ⟨Y, oy, none⟩), .pointer none] w
      fun e w' => e = .returned (.pointer (some ⟨Z, oz, none⟩)) ∧ IntRes w Z oz cs t (10 ^ k) w' := by
  have H := hid (intExp Z oz X ox Y oy cs t n0 vx vy self k w hZ h0 h1 x0 x1 y0 y1 hx hy hT hk hk' hXZ)
  clear hZ h0 h1 x0 x1 y0 y1 hx hy hT hXZ
  go_enter Tryz.func207, Tryz.ntmps207
  go_wp2_with fail
  refine H.out.mono ?_
  rintro e w1 ⟨rfl, r⟩
  have N := hid r
  clear r
  go_wp2_with fail
  go_ret
  exact ⟨rfl, N.out⟩

set_option maxRecDepth 100000 in
set_option maxHeartbeats 2000000 in
theorem bigExp (Z oz X ox Y oy : Nat) (cs : Array Value) (t : TypeId) (n0 m0 : Bool) (vx vy : Value) (self : Bool) (k : Nat) (w : World) (hZ : BlkAt w Z cs t) (h0 : cs[oz]? = some (.bool n0)) (h1 : cs[oz + 1]? = some (if self then vx else .slice none 0 0)) (h2 : cs[oz + 2]? = some (.bool m0))
    (x0 : w.cell? ⟨X, ox, none⟩ = some (.bool false)) (x1 : w.cell? ⟨X, ox + 1, none⟩ = some vx) (y0 : w.cell? ⟨Y, oy, none⟩ = some (.bool false)) (y1 : w.cell? ⟨Y, oy + 1, none⟩ = some vy)
    (hx : NatAt w vx [10]) (hy : NatAt w vy [k]) (hT : Thr w) (hk : 1 ≤ k) (hk' : k ≤ 100) (hXZ : (X = Z ∧ ox = oz) ∨ X ≠ Z) (hYZ : Y ≠ Z) (hxZ : ∀ g, natBlk vx = some g → g ≠ Z) (hyZ : ∀ g, natBlk vy = some g → g ≠ Z) (hZ19 : 19 ≤ Z) :
    Calls Tryz.prog 178 #[.pointer (some ⟨Z, oz, none⟩), .pointer (some ⟨X, ox, none⟩), .pointer (some ⟨Y, oy, none⟩)] w
      fun e w' => e = .returned (.pointer (some ⟨Z, oz, none⟩)) ∧ IntRes w Z oz (cs.setIfInBounds (oz + 2) (.bool false)) t (10 ^ k) w' := by
  have z2 : w.cell? ⟨Z, oz + 2, none⟩ = some (.bool m0) := by rw [blk_cell hZ]; exact h2
  have f2 : w.frozen? ⟨Z, oz + 2, none⟩ = false := blk_frozen hZ _
  have s2 := blk_set hZ (oz + 2) (.bool false)
  have hF : Fr (fun i => i = Z) w (w.setCell ⟨Z, oz + 2, none⟩ (.bool false)) := Fr.setCell (S := fun i => i = Z) (p := ⟨Z, oz + 2, none⟩) (Fr.refl _ _) (fun _ => rfl) _
  have keep : ∀ (i : Nat) (u : Value), w.cell? ⟨X, ox + i, none⟩ = some u → i ≤ 1 → (w.setCell ⟨Z, oz + 2, none⟩ (.bool false)).cell? ⟨X, ox + i, none⟩ = some u := fun i u hu hi => by
    rcases hXZ with ⟨rfl, rfl⟩ | h
    · rw [blk_cell s2, Array.getElem?_setIfInBounds, if_neg (by omega), ← blk_cell hZ]; exact hu
    · exact hF.cell' hu h
  have hE := intExpDoor Z oz X ox Y oy (cs.setIfInBounds (oz + 2) (.bool false)) t n0 vx vy self k (w.setCell ⟨Z, oz + 2, none⟩ (.bool false)).drew s2
    (by rw [Array.getElem?_setIfInBounds, if_neg (by omega)]; exact h0) (by rw [Array.getElem?_setIfInBounds, if_neg (by omega)]; exact h1)
    (keep 0 _ x0 (by omega)) (keep 1 _ x1 (by omega)) (hF.cell' y0 hYZ) (hF.cell' y1 hYZ) ((hx.fr hF (fun g hg h => hxZ g hg h) : NatAt (w.setCell ⟨Z, oz + 2, none⟩ (.bool false)) vx [10])) ((hy.fr hF (fun g hg h => hyZ g hg h) : NatAt (w.setCell ⟨Z, oz + 2, none⟩ (.bool false)) vy [k])) (hT.fr hF.drew (fun i hi h => by have h : i = Z := h; omega)) hk hk' hXZ
  have HE := hid hE; have HF := hid hF
  have HSZ : Hid ((w.setCell ⟨Z, oz + 2, none⟩ (.bool false)).heap.size = w.heap.size) := hid (by simp)
  clear hE hF keep s2 hZ h0 h1 h2 x0 x1 y0 y1 hx hy hT hXZ hYZ hxZ hyZ
  go_enter Tryz.func178, Tryz.ntmps178
  go_wp2_with fail
  go_region_with (first | (go_at_call 207; refine HE.out.mono ?_; rintro e w1 ⟨rfl, r⟩; have R := hid r; clear r))
  obtain ⟨v', r1, r2, r3, r4⟩ := R.out
  have N := hid (show IntRes w Z oz (cs.setIfInBounds (oz + 2) (.bool false)) t (10 ^ k) w1 from ⟨v', r1, r2, fun g hg => by have := r3 g hg; exact Nat.le_trans (Nat.le_of_eq HSZ.out.symm) this, HF.out.drew.trans r4 (fun _ _ h => h)⟩)
  clear r1 r2 r3 r4 R
  go_wp2_with fail
  go_ret
  exact ⟨rfl, N.out⟩
end Go.Proofs.YteokhhepnoelhaaGreatDoor

set_option linter.unusedVariables false
set_option linter.unusedSimpArgs false
namespace Go.Proofs.YteokhhepnoelhaaGreatDoor
open Go.RowKit

theorem limbs_small {k : Nat} (h0 : k ≠ 0) (h : k < WB) : limbs k = [k] := by
  rw [limbs_pos h0, Nat.mod_eq_of_lt h, Nat.div_eq_of_lt h, limbs_zero]

set_option maxRecDepth 100000 in
set_option maxHeartbeats 2000000 in
theorem setBigWithPow (Z oz : Nat) (cs : Array Value) (t : TypeId) (n0 m0 : Bool) (k : Nat) (w : World) (hZ : BlkAt w Z cs t) (h0 : cs[oz]? = some (.bool n0)) (h1 : cs[oz + 1]? = some (.slice none 0 0)) (h2 : cs[oz + 2]? = some (.bool m0)) (hT : Thr w) (hk : 1 ≤ k) (hk' : k ≤ 100) (hZ19 : 19 ≤ Z) :
    Calls Tryz.prog 148 #[.pointer (some ⟨Z, oz, none⟩), .int .i64 (k : Int)] w fun e w' => e = .returned (.tuple #[]) ∧ IntRes w Z oz (cs.setIfInBounds (oz + 2) (.bool false)) t (10 ^ k) w' := by
  have hb := blk_new w (.cells #[.bool false, .slice none 0 0, .bool false] 70 (0, 0))
  have hFa : Fr NoB w (w.alloc (.cells #[.bool false, .slice none 0 0, .bool false] 70)) := (Fr.refl _ _).alloc _
  have HI := hid (bigSetInt64 w.heap.size 0 #[.bool false, .slice none 0 0, .bool false] 70 false false k (w.alloc (.cells #[.bool false, .slice none 0 0, .bool false] 70)) hb rfl rfl rfl (by omega))
  have hsz : (w.alloc (.cells #[.bool false, .slice none 0 0, .bool false] 70)).heap.size = w.heap.size + 1 := by simp
  have HZ := hid hZ; have H0 := hid h0; have H1 := hid h1; have H2 := hid h2; have HT := hid hT; have HFA := hid hFa; have HSZ := hid hsz
  have hZl := blk_lt hZ
  clear hb hFa hsz hZ h0 h1 h2 hT
  go_enter Tryz.func148, Tryz.ntmps148
  go_wp2_with fail
  refine HI.out.mono ?_
  rintro e w1 ⟨rfl, vy, r1, r2, r3, r4⟩
  have hF1 : Fr NoB w w1 := HFA.out.trans r4 (fun i hi h => by have h : i = w.heap.size := h; omega)
  have R1 := hid r1; have R2 := hid r2; have R3 := hid r3; have HF1 := hid hF1
  clear r1 r2 r3 r4 hF1
  go_wp2_with fail
  refine (bigTen_any w1).mono ?_
  rintro e w2 ⟨rfl, vx, q1, q2, q3, q4⟩
  have hF2 : Fr NoB w w2 := HF1.out.trans q4 (fun _ _ h => h)
  have hzl : w.heap.size < w1.heap.size := blk_lt R1.out
  have y0 : w2.cell? ⟨w.heap.size, 0, none⟩ = some (.bool false) := by rw [blk_cell (q4.blk R1.out (fun h => h))]; rfl
  have y1 : w2.cell? ⟨w.heap.size, 0 + 1, none⟩ = some vy := by rw [blk_cell (q4.blk R1.out (fun h => h))]; rfl
  have hvy : NatAt w1 vy [k] := by
    have h := R2.out
    rw [limbs_small (k := k) (by omega) (by rw [WB_eq]; omega)] at h
    exact h
  have HE := hid (bigExp Z oz w1.heap.size 0 w.heap.size 0 cs t n0 m0 vx vy false k w2 (hF2.blk HZ.out (fun h => h)) H0.out H1.out H2.out
    (by rw [blk_cell q1]; rfl) (by rw [blk_cell q1]; rfl) y0 y1 (by rw [limbs_small (by omega) (by rw [WB_eq]; omega)] at q2; exact q2) (hvy.fr q4 (fun _ _ h => h)) (HT.out.fr hF2 (fun _ _ h => h)) hk hk' (.inr (by omega)) (by omega) (fun g hg => by have := q3 g hg; omega) (fun g hg => by have := R3.out g hg; rw [HSZ.out] at this; omega) hZ19)
  have HF2 := hid hF2
  clear hF2 q1 q2 q3 q4 y0 y1 hvy
  go_wp2_with fail
  refine HE.out.mono ?_
  rintro e w3 ⟨rfl, v', s1, s2, s3, s4⟩
  have N := hid (show IntRes w Z oz (cs.setIfInBounds (oz + 2) (.bool false)) t (10 ^ k) w3 from ⟨v', s1, s2, fun g hg => Nat.le_trans HF2.out.size (s3 g hg), Fr.trans (S := fun i => i = Z) (HF2.out.mono (fun _ _ h => h.elim)) s4 (fun _ _ h => h)⟩)
  clear s1 s2 s3 s4
  go_wp2_with fail
  go_end0
  exact ⟨rfl, N.out⟩

theorem tableExp10 (Z oz : Nat) (cs : Array Value) (t : TypeId) (n0 m0 : Bool) (k : Nat) (w : World) (hZ : BlkAt w Z cs t) (h0 : cs[oz]? = some (.bool n0)) (h1 : cs[oz + 1]? = some (.slice none 0 0)) (h2 : cs[oz + 2]? = some (.bool m0)) (hT : Thr w) (hk : 1 ≤ k) (hk' : k ≤ 100) (hZ19 : 19 ≤ Z) :
    Calls Tryz.prog 101 #[.int .i64 (k : Int), .pointer (some ⟨Z, oz, none⟩)] w fun e w' => e = .returned (.pointer (some ⟨Z, oz, none⟩)) ∧ IntRes w Z oz (cs.setIfInBounds (oz + 2) (.bool false)) t (10 ^ k) w' := by
  have H := hid (setBigWithPow Z oz cs t n0 m0 k w hZ h0 h1 h2 hT hk hk' hZ19)
  clear hZ h0 h1 h2 hT
  go_enter Tryz.func101, Tryz.ntmps101
  go_wp2_with fail
  refine H.out.mono ?_
  rintro e w1 ⟨rfl, r⟩
  have N := hid r
  clear r
  go_wp2_with fail
  go_ret
  exact ⟨rfl, N.out⟩

/-! ### Lsh of 1 -/
def LshRes (w : World) (C : Nat) (s : Nat) (w' : World) : Prop :=
  ∃ v', BlkAt w' C #[.bool false, v', .bool false] 70 ∧ NatAt w' v' (limbs (2 ^ s)) ∧ (∀ g, natBlk v' = some g → C < g) ∧ Fr (fun i => C ≤ i) w w'

set_option maxRecDepth 100000 in
set_option maxHeartbeats 2000000 in
theorem intLsh_one (C : Nat) (v : Value) (s : Nat) (w : World) (hC : BlkAt w C #[.bool false, v, .bool false] 70) (hv : NatAt w v [1]) (hg : ∀ g, natBlk v = some g → C < g) (hs : s ≤ 200) :
    Calls Tryz.prog 229 #[.pointer (some ⟨C, 0, none⟩), .pointer (some ⟨C, 0, none⟩), .int .u64 (s : Int)] w fun e w' => e = .returned (.pointer (some ⟨C, 0, none⟩)) ∧ LshRes w C s w' := by
  obtain ⟨g, cap, rfl, _, _, hgl, _, _⟩ := hv.cell (by simp)
  have hFd : Fr NoB w w.drew := (Fr.refl _ _).drew
  have HL := hid (natLsh_one g cap s w.drew (hv.fr hFd (fun _ _ h => h)) hs)
  rw [show ([1] : List Nat).length = 1 from rfl] at *
  have hCg := hg g rfl
  have hCd : BlkAt w.drew C #[.bool false, .slice (some ⟨g, 0, none⟩) 1 cap, .bool false] 70 := hC
  have c1 : w.cell? ⟨C, 1, none⟩ = some (.slice (some ⟨g, 0, none⟩) 1 cap) := by rw [blk_cell hC]; rfl
  have HC := hid hCd
  have fin : ∀ (w1 : World) (v' : Value), NatRes w.drew (.slice (some ⟨g, 0, none⟩) 1 cap) (2 ^ s) (.returned v') w1 → ∃ A n c, v' = .slice A n c ∧ BlkAt w1 C #[.bool false, .slice (some ⟨g, 0, none⟩) 1 cap, .bool false] 70 ∧
      LshRes w C s ((w1.setCell ⟨C, 1, none⟩ v').setCell ⟨C, 0, none⟩ (.bool false)) := by
    rintro w1 v' ⟨v, hv, r1, r2, r3⟩
    cases hv
    obtain ⟨A, c, hs⟩ := r1.shape
    have hb1 : BlkAt w1 C #[.bool false, .slice (some ⟨g, 0, none⟩) 1 cap, .bool false] 70 := r2.blk HC.out (fun h => by
      have h : some g = some C := h
      cases h; omega)
    have s1 := blk_set hb1 1 v'
    have s0 := blk_set s1 0 (.bool false)
    refine ⟨_, _, _, hs, hb1, v', s0, ?_, fun i hi => ?_, ?_⟩
    · have hF2 : Fr (fun i => i = C) w1 ((w1.setCell ⟨C, 1, none⟩ v').setCell ⟨C, 0, none⟩ (.bool false)) :=
        Fr.setCell (S := fun i => i = C) (p := ⟨C, 0, none⟩) (Fr.setCell (S := fun i => i = C) (p := ⟨C, 1, none⟩) (Fr.refl _ _) (fun _ => rfl) _) (fun _ => rfl) _
      refine r1.fr hF2 (fun i hi h => ?_)
      have h : i = C := h
      rcases r3 i hi with h2 | h2
      · have h2 : some g = some i := h2
        cases h2; omega
      · have := blk_lt HC.out; omega
    · rcases r3 i hi with h2 | h2
      · have h2 : some g = some i := h2
        cases h2; omega
      · have := blk_lt HC.out; omega
    · refine Fr.setCell (S := fun i => C ≤ i) (p := ⟨C, 0, none⟩) (Fr.setCell (S := fun i => C ≤ i) (p := ⟨C, 1, none⟩) (hFd.mono (fun _ _ h => h.elim) |>.trans r2 (fun i hi h => ?_)) (fun _ => Nat.le_refl _) _) (fun _ => Nat.le_refl _) _
      have h : some g = some i := h
      cases h; omega
  have FIN := hid fin
  clear hC hCd hv hg fin hFd
  go_enter Tryz.func229, Tryz.ntmps229
  go_wp2_with fail
  go_region_with (first | (go_at_call 262; refine HL.out.mono ?_; rintro e w1 ⟨v', rfl, r1, r2, r3⟩; obtain ⟨A, n, c, rfl, hb1, hfin⟩ := FIN.out w1 v' ⟨v', rfl, r1, r2, r3⟩; have k1 : w1.cell? ⟨C, 1, none⟩ = some (.slice (some ⟨g, 0, none⟩) 1 cap) := (by rw [blk_cell hb1]; rfl); have f1 : w1.frozen? ⟨C, 1, none⟩ = false := blk_frozen hb1 _; have HFI := hid hfin; have HB1 := hid hb1; clear hfin hb1 r1 r2 r3))
  all_goals
    have s1 := blk_set HB1.out 1 (.slice A n c)
    have k0 : (w1.setCell ⟨C, 1, none⟩ (.slice A n c)).cell? ⟨C, 0, none⟩ = some (.bool false) := by rw [blk_cell s1]; rfl
    have f0 : (w1.setCell ⟨C, 1, none⟩ (.slice A n c)).frozen? ⟨C, 0, none⟩ = false := blk_frozen s1 _
    clear s1
    go_wp2_with fail
    go_ret
    exact ⟨rfl, HFI.out⟩

set_option maxRecDepth 100000 in
set_option maxHeartbeats 2000000 in
theorem bigLsh_one (C : Nat) (v : Value) (m0 : Bool) (s : Nat) (w : World) (hC : BlkAt w C #[.bool false, v, .bool m0] 70) (hv : NatAt w v [1]) (hg : ∀ g, natBlk v = some g → C < g) (hs : s ≤ 200) :
    Calls Tryz.prog 195 #[.pointer (some ⟨C, 0, none⟩), .pointer (some ⟨C, 0, none⟩), .int .u64 (s : Int)] w fun e w' => e = .returned (.pointer (some ⟨C, 0, none⟩)) ∧ LshRes w C s w' := by
  have c2 : w.cell? ⟨C, 2, none⟩ = some (.bool m0) := by rw [blk_cell hC]; rfl
  have f2 : w.frozen? ⟨C, 2, none⟩ = false := blk_frozen hC _
  have s2 := blk_set hC 2 (.bool false)
  have hF : Fr (fun i => i = C) w (w.setCell ⟨C, 2, none⟩ (.bool false)).drew := (Fr.setCell (S := fun i => i = C) (p := ⟨C, 2, none⟩) (Fr.refl _ _) (fun _ => rfl) _).drew
  have HL := hid (intLsh_one C v s (w.setCell ⟨C, 2, none⟩ (.bool false)).drew s2 (hv.fr hF (fun g hg' h => by
    have h : g = C := h
    have := hg g hg'
    omega)) hg hs)
  have HF := hid hF
  clear hC hv hg s2 hF
  go_enter Tryz.func195, Tryz.ntmps195
  go_wp2_with fail
  go_region_with (first | (go_at_call 229; refine HL.out.mono ?_; rintro e w1 ⟨rfl, r⟩; have R := hid r; clear r))
  obtain ⟨v', r1, r2, r3, r4⟩ := R.out
  have N := hid (show LshRes w C s w1 from ⟨v', r1, r2, r3, Fr.trans (S := fun i => C ≤ i) (HF.out.mono (fun i hi h => by have h : i = C := h; omega)) r4 (fun _ _ h => h)⟩)
  clear r1 r2 r3 r4 R
  go_wp2_with fail
  go_ret
  exact ⟨rfl, N.out⟩

/-! ### String -/
def StrRes (w : World) (N : Nat) (e : Ending) (w' : World) : Prop := e = .returned (.string ⟨(Lib.decDigits N).toArray⟩) ∧ Fr NoB w w'

theorem BytesAt.str {w : World} {B : Nat} {v : Value} {l : List UInt8} (h : BytesAt w B v l) : (convert 100 9 v).run Tryz.prog w = .ok (.string ⟨l.toArray⟩) w := by
  obtain ⟨g, o, cap, cs, fr, rfl, h2, h3, h4, h5, h6, h7⟩ := h
  refine run_convert_bytes_back w 100 9 5 ⟨g, o, none⟩ cap l Tryz.underlying100 Tryz.underlying5 Tryz.underlying9 (fun j hj => ?_)
  rw [add_plain]
  have := h7 j l[j] (List.getElem?_eq_getElem hj)
  simp only [World.cell?, h3]
  exact this

set_option maxRecDepth 100000 in
set_option maxHeartbeats 2000000 in
theorem intText (C o : Nat) (v : Value) (N : Nat) (w : World) (h0 : w.cell? ⟨C, o, none⟩ = some (.bool false)) (h1 : w.cell? ⟨C, o + 1, none⟩ = some v) (hv : NatAt w v (limbs N)) (hb : blen N < 300) (hT : Thr w) :
    Calls Tryz.prog 263 #[.pointer (some ⟨C, o, none⟩), .int .i64 10] w (StrRes w N) := by
  have hFd : Fr NoB w w.drew := (Fr.refl _ _).drew
  have HI := hid (natItoa v N hb w.drew (hv.fr hFd (fun _ _ h => h)) (hT.fr hFd (fun _ _ h => h)).leaf)
  obtain ⟨A, c, rfl⟩ := hv.shape
  have hFD := hid hFd
  clear hv hT hFd
  generalize (limbs N).length = n at *
  go_enter Tryz.func263, Tryz.ntmps263
  go_wp2_with fail
  go_region_with (first | (go_at_call 154; refine HI.out.mono ?_; rintro e w1 ⟨v', rfl, hby, hF⟩; have hcv := hby.str; have N1 := hid (show Fr NoB w w1 from hFD.out.trans hF (fun _ _ h => h)); obtain ⟨g, o', cap, cs, fr, rfl, hby⟩ := hby; clear hby hF))
  all_goals
    go_wp2_with fail
    go_ret
    exact ⟨rfl, N1.out⟩

theorem bigString (C o : Nat) (v : Value) (N : Nat) (w : World) (h0 : w.cell? ⟨C, o, none⟩ = some (.bool false)) (h1 : w.cell? ⟨C, o + 1, none⟩ = some v) (hv : NatAt w v (limbs N)) (hb : blen N < 300) (hT : Thr w) :
    Calls Tryz.prog 196 #[.pointer (some ⟨C, o, none⟩)] w (StrRes w N) := by
  have H := hid (intText C o v N w h0 h1 hv hb hT)
  clear h0 h1 hv hb hT
  go_enter Tryz.func196, Tryz.ntmps196
  go_wp2_with (first | (go_at_call 230; go_in))
  refine H.out.mono ?_
  rintro e w1 ⟨rfl, r⟩
  have N := hid r
  clear r
  go_wp2_with fail
  go_ret
  exact ⟨rfl, N.out⟩
end Go.Proofs.YteokhhepnoelhaaGreatDoor

set_option linter.unusedVariables false
set_option linter.unusedSimpArgs false
namespace Go.Proofs.YteokhhepnoelhaaGreatDoor
open Go.RowKit

/-- What Int.Set leaves: the other's words in a row of z's own or a new one, the other's sign. -/
def SetRes (w : World) (Z oz : Nat) (cs : Array Value) (t : TypeId) (vz : Value) (nx : Bool) (xs : List Nat) (w' : World) : Prop :=
  ∃ v', BlkAt w' Z ((cs.setIfInBounds (oz + 1) v').setIfInBounds oz (.bool nx)) t ∧ NatAt w' v' xs ∧ (∀ g, natBlk v' = some g → natBlk vz = some g ∨ w.heap.size ≤ g) ∧ Fr (fun i => i = Z ∨ natBlk vz = some i) w w'

set_option maxRecDepth 100000 in
set_option maxHeartbeats 2000000 in
theorem intSet (Z oz X ox : Nat) (cs csx : Array Value) (t tx : TypeId) (nz nx : Bool) (vz vx : Value) (zs xs : List Nat) (w : World) (hZ : BlkAt w Z cs t) (h0 : cs[oz]? = some (.bool nz)) (h1 : cs[oz + 1]? = some vz)
    (hX : BlkAt w X csx tx) (x0 : csx[ox]? = some (.bool nx)) (x1 : csx[ox + 1]? = some vx) (hvz : NatAt w vz zs) (hvx : NatAt w vx xs) (hl : xs.length ≤ 900) (hd : Z = X → ox + 1 < oz ∨ oz + 1 < ox) (hzZ : ∀ g, natBlk vz = some g → g ≠ Z ∧ g ≠ X) :
    Calls Tryz.prog 68 #[.pointer (some ⟨Z, oz, none⟩), .pointer (some ⟨X, ox, none⟩)] w fun e w' => e = .returned (.pointer (some ⟨Z, oz, none⟩)) ∧ SetRes w Z oz cs t vz nx xs w' := by
  have hq := neq102_other (a := ⟨Z, oz, none⟩) (b := ⟨X, ox, none⟩) w (fun e => by
    have e1 : Z = X := congrArg Addr.block e
    have e2 : oz = ox := congrArg Addr.off e
    rcases hd e1 with h | h <;> omega) hZ hX
  have c1 : w.cell? ⟨Z, oz + 1, none⟩ = some vz := by rw [blk_cell hZ]; exact h1
  have cx1 : w.cell? ⟨X, ox + 1, none⟩ = some vx := by rw [blk_cell hX]; exact x1
  have hFd : Fr NoB w w.drew := (Fr.refl _ _).drew
  have HS := hid (natSet vz vx zs xs w.drew (hvz.fr hFd (fun _ _ h => h)) (hvx.fr hFd (fun _ _ h => h)) hl)
  obtain ⟨Az, cz, hz⟩ := hvz.shape
  obtain ⟨Ax, cx, hx⟩ := hvx.shape
  have fin : ∀ (w1 : World) (v' : Value), RowRes w.drew vz xs (.returned v') w1 → ∃ A n c, v' = .slice A n c ∧ BlkAt w1 Z cs t ∧
      (w1.setCell ⟨Z, oz + 1, none⟩ v').cell? ⟨X, ox, none⟩ = some (.bool nx) ∧ SetRes w Z oz cs t vz nx xs ((w1.setCell ⟨Z, oz + 1, none⟩ v').setCell ⟨Z, oz, none⟩ (.bool nx)) := by
    rintro w1 v' ⟨v, hv, r1, r2, r3⟩
    cases hv
    obtain ⟨A, c, hs⟩ := r1.shape
    have hb1 : BlkAt w1 Z cs t := r2.blk hZ (fun h => (hzZ Z h).1 rfl)
    have hbx : BlkAt w1 X csx tx := r2.blk hX (fun h => (hzZ X h).2 rfl)
    have s1 := blk_set hb1 (oz + 1) v'
    have s0 := blk_set s1 oz (.bool nx)
    have hF2 : ∀ a, Fr (fun i => i = Z ∨ natBlk vz = some i) a w1 → Fr (fun i => i = Z ∨ natBlk vz = some i) a ((w1.setCell ⟨Z, oz + 1, none⟩ v').setCell ⟨Z, oz, none⟩ (.bool nx)) := fun a ha =>
      Fr.setCell (S := fun i => i = Z ∨ natBlk vz = some i) (p := ⟨Z, oz, none⟩) (Fr.setCell (S := fun i => i = Z ∨ natBlk vz = some i) (p := ⟨Z, oz + 1, none⟩) ha (fun _ => .inl rfl) _) (fun _ => .inl rfl) _
    refine ⟨_, _, _, hs, hb1, ?_, v', s0, ?_, r3, hF2 w (Fr.trans (S := fun i => i = Z ∨ natBlk vz = some i) (hFd.mono (fun _ _ h => h.elim)) r2 (fun _ _ h => .inr h))⟩
    · by_cases e : X = Z
      · subst e
        have : cs = csx ∧ t = tx := by
          have := hZ.symm.trans hX
          simp at this
          exact this
        rw [blk_cell s1, Array.getElem?_setIfInBounds, if_neg (by rcases hd rfl with h | h <;> omega), this.1]
        exact x0
      · have hF3 : Fr (fun i => i = Z) w1 (w1.setCell ⟨Z, oz + 1, none⟩ v') := Fr.setCell (S := fun i => i = Z) (p := ⟨Z, oz + 1, none⟩) (Fr.refl _ _) (fun _ => rfl) _
        exact hF3.cell' (by rw [blk_cell hbx]; exact x0) e
    · have hF4 : Fr (fun i => i = Z) w1 ((w1.setCell ⟨Z, oz + 1, none⟩ v').setCell ⟨Z, oz, none⟩ (.bool nx)) :=
        Fr.setCell (S := fun i => i = Z) (p := ⟨Z, oz, none⟩) (Fr.setCell (S := fun i => i = Z) (p := ⟨Z, oz + 1, none⟩) (Fr.refl _ _) (fun _ => rfl) _) (fun _ => rfl) _
      refine r1.fr hF4 (fun g hg h => ?_)
      have h : g = Z := h
      rcases r3 g hg with h2 | h2
      · exact (hzZ g h2).1 h
      · have h3 := blk_lt hZ
        have h4 : w.drew.heap.size = w.heap.size := rfl
        omega
  have FIN := hid fin
  have H1 := hid h1; have H0 := hid h0
  clear hvz hvx hX x0 x1 hd hzZ hFd fin h0 h1 hZ
  subst hz; subst hx
  generalize zs.length = n1 at *
  generalize xs.length = n2 at *
  go_enter Tryz.func68, Tryz.ntmps68
  go_wp2_with fail
  go_region_with (first | (go_at_call 110; refine HS.out.mono ?_; rintro e w1 ⟨v', rfl, r1, r2, r3⟩; obtain ⟨A, n, c, rfl, hb1, hcx, hfin⟩ := FIN.out w1 v' ⟨v', rfl, r1, r2, r3⟩; have k1 : w1.cell? ⟨Z, oz + 1, none⟩ = some (.slice Az n1 cz) := (by rw [blk_cell hb1]; exact H1.out); have f1 : w1.frozen? ⟨Z, oz + 1, none⟩ = false := blk_frozen hb1 _; have HFI := hid hfin; have HB1 := hid hb1; clear hfin hb1 r1 r2 r3))
  all_goals
    have s1 := blk_set HB1.out (oz + 1) (.slice A n c)
    have k0 : (w1.setCell ⟨Z, oz + 1, none⟩ (.slice A n c)).cell? ⟨Z, oz, none⟩ = some (.bool nz) := by rw [blk_cell s1, Array.getElem?_setIfInBounds, if_neg (by omega)]; exact H0.out
    have f0 : (w1.setCell ⟨Z, oz + 1, none⟩ (.slice A n c)).frozen? ⟨Z, oz, none⟩ = false := blk_frozen s1 _
    clear s1
    go_wp2_with fail
    go_ret
    exact ⟨rfl, HFI.out⟩

/-- A row of the table of digits. -/
def tabRow (d : Nat) (v1 v2 : Value) (n : Bool) : Array Value := #[.int .i64 (d : Int), .bool false, v1, .bool false, .bool n, v2, .bool false]

set_option maxRecDepth 100000 in
set_option maxHeartbeats 2000000 in
theorem intNeg (E d M : Nat) (v1 : Value) (w : World) (hE : BlkAt w E (tabRow d v1 (.slice none 0 0) false) 219) (hv : NatAt w v1 (limbs M)) (hM : M ≠ 0) (hl : (limbs M).length ≤ 900) (hvE : ∀ g, natBlk v1 = some g → g ≠ E) :
    Calls Tryz.prog 231 #[.pointer (some ⟨E, 4, none⟩), .pointer (some ⟨E, 1, none⟩)] w fun e w' => e = .returned (.pointer (some ⟨E, 4, none⟩)) ∧ ∃ v2, BlkAt w' E (tabRow d v1 v2 true) 219 ∧ Fr (fun i => i = E) w w' := by
  have HS := hid (intSet E 4 E 1 _ _ 219 219 false false (.slice none 0 0) v1 [] (limbs M) w hE rfl rfl hE rfl rfl (NatAt.nil _) hv hl (fun _ => .inl (by omega)) (fun g h => by cases h))
  have hl1 := limbs_len_pos hM
  have hd : decide (0 < (limbs M).length) = true := decide_eq_true (by omega)
  clear hE hv hvE
  go_enter Tryz.func231, Tryz.ntmps231
  go_wp2_with fail
  refine HS.out.mono ?_
  rintro e w1 ⟨rfl, v2, r1, r2, r3, r4⟩
  have hF : Fr (fun i => i = E) w w1 := r4.mono (fun i hi h => h.elim (fun h => h) (fun h => by cases h))
  obtain ⟨A, c, rfl⟩ := r2.shape
  have r1' : BlkAt w1 E (tabRow d v1 (.slice A (limbs M).length c) false) 219 := r1
  have k5 : w1.cell? ⟨E, 5, none⟩ = some (.slice A (limbs M).length c) := by rw [blk_cell r1']; rfl
  have k4 : w1.cell? ⟨E, 4, none⟩ = some (.bool false) := by rw [blk_cell r1']; rfl
  have f4 : w1.frozen? ⟨E, 4, none⟩ = false := blk_frozen r1' _
  have s4 : BlkAt (w1.setCell ⟨E, 4, none⟩ (.bool true)) E (tabRow d v1 (.slice A (limbs M).length c) true) 219 := blk_set r1' 4 (.bool true)
  have N := hid (show ∃ v2, BlkAt (w1.setCell ⟨E, 4, none⟩ (.bool true)) E (tabRow d v1 v2 true) 219 ∧ Fr (fun i => i = E) w (w1.setCell ⟨E, 4, none⟩ (.bool true)) from ⟨_, s4, Fr.setCell (S := fun i => i = E) (p := ⟨E, 4, none⟩) hF (fun _ => rfl) _⟩)
  clear s4 r1 r1' r2 r3 r4 hF
  generalize (limbs M).length = n at *
  go_wp2_with fail
  go_ret
  exact ⟨rfl, N.out⟩

set_option maxRecDepth 100000 in
set_option maxHeartbeats 2000000 in
theorem bigNeg (E d M : Nat) (v1 : Value) (w : World) (hE : BlkAt w E (tabRow d v1 (.slice none 0 0) false) 219) (hv : NatAt w v1 (limbs M)) (hM : M ≠ 0) (hl : (limbs M).length ≤ 900) (hvE : ∀ g, natBlk v1 = some g → g ≠ E) :
    Calls Tryz.prog 197 #[.pointer (some ⟨E, 4, none⟩), .pointer (some ⟨E, 1, none⟩)] w fun e w' => e = .returned (.pointer (some ⟨E, 4, none⟩)) ∧ ∃ v2, BlkAt w' E (tabRow d v1 v2 true) 219 ∧ Fr (fun i => i = E) w w' := by
  have s6 : BlkAt (w.setCell ⟨E, 6, none⟩ (.bool false)) E (tabRow d v1 (.slice none 0 0) false) 219 := blk_set hE 6 (.bool false)
  have hF : Fr (fun i => i = E) w (w.setCell ⟨E, 6, none⟩ (.bool false)).drew := (Fr.setCell (S := fun i => i = E) (p := ⟨E, 6, none⟩) (Fr.refl _ _) (fun _ => rfl) _).drew
  have HN := hid (intNeg E d M v1 (w.setCell ⟨E, 6, none⟩ (.bool false)).drew s6 (hv.fr hF (fun g hg h => hvE g hg h)) hM hl hvE)
  have hl1 := limbs_len_pos hM
  have k6 : w.cell? ⟨E, 6, none⟩ = some (.bool false) := by rw [blk_cell hE]; rfl
  have f6 : w.frozen? ⟨E, 6, none⟩ = false := blk_frozen hE _
  have k1 : w.cell? ⟨E, 1, none⟩ = some (.bool false) := by rw [blk_cell hE]; rfl
  have k2 : w.cell? ⟨E, 2, none⟩ = some v1 := by rw [blk_cell hE]; rfl
  have k3 : w.cell? ⟨E, 3, none⟩ = some (.bool false) := by rw [blk_cell hE]; rfl
  obtain ⟨A, c, hs⟩ := hv.shape
  have q0 : (((limbs M).length : Int) == 0) = false := beq_eq_false_iff_ne.2 (by omega)
  have HF := hid hF
  clear hE hv hvE s6 hF
  subst hs
  generalize (limbs M).length = n at *
  go_enter Tryz.func197, Tryz.ntmps197
  go_wp2_with (first | (go_at_call 150; go_in))
  go_region_with (first | (go_at_call 231; refine HN.out.mono ?_; rintro e w1 ⟨rfl, r⟩; have R := hid r; clear r))
  obtain ⟨v2, r1, r2⟩ := R.out
  have N := hid (show ∃ v2, BlkAt w1 E (tabRow d (.slice A n c) v2 true) 219 ∧ Fr (fun i => i = E) w w1 from ⟨v2, r1, HF.out.trans r2 (fun _ _ h => h)⟩)
  clear r1 r2 R
  go_wp2_with fail
  go_ret
  exact ⟨rfl, N.out⟩
end Go.Proofs.YteokhhepnoelhaaGreatDoor

set_option linter.unusedVariables false
set_option linter.unusedSimpArgs false
namespace Go.Proofs.YteokhhepnoelhaaGreatDoor
open Go.RowKit

/-- How many digits the least number of i bits has. -/
def tabDigits (i : Nat) : Nat := Lib.nDigits (2 ^ (i - 1))
theorem tabDigits_bounds {i : Nat} (h1 : 1 ≤ i) (h2 : i ≤ 129) : 1 ≤ tabDigits i ∧ tabDigits i ≤ 40 := by
  refine ⟨Lib.nDigits_pos _, nDigits_le (Nat.ne_of_gt (Nat.pow_pos (by omega))) ?_⟩
  have a : 2 ^ (i - 1) ≤ 2 ^ 128 := Nat.pow_le_pow_right (by omega) (by omega)
  have b : (2 : Nat) ^ 128 < 10 ^ 40 := by decide +kernel
  omega
theorem blen_pow (s : Nat) : blen (2 ^ s) = s + 1 := blen_eq (Nat.le_refl _) (Nat.pow_lt_pow_right (by omega) (by omega))

theorem str_size' (l : List UInt8) : (ByteArray.mk l.toArray).size = l.length := by simp [ByteArray.size]

/-- What digitsLookup gives: a row of its own. -/
def TabRes (w : World) (i : Nat) (e : Ending) (w' : World) : Prop :=
  ∃ E v1 v2, e = .returned (.pointer (some ⟨E, 0, none⟩)) ∧ w.heap.size ≤ E ∧ BlkAt w' E (tabRow (tabDigits i) v1 v2 true) 219 ∧ NatAt w' v1 (limbs (10 ^ tabDigits i)) ∧ Fr NoB w w'

set_option maxRecDepth 100000 in
set_option maxHeartbeats 4000000 in
theorem digitsLookup (i : Nat) (w : World) (hT : Thr w) (h1 : 1 ≤ i) (h2 : i ≤ 129) : Calls Tryz.prog 166 #[.int .i64 (i : Int)] w (TabRes w i) := by
  obtain ⟨d1, d2⟩ := tabDigits_bounds h1 h2
  have i0 : ((i : Int) == 0) = false := beq_eq_false_iff_ne.2 (by omega)
  have hdd : (Lib.decDigits (2 ^ (i - 1))).length = tabDigits i := by rw [Lib.decDigits_length]; rfl
  obtain ⟨d, hd⟩ : ∃ d, tabDigits i = d := ⟨_, rfl⟩
  rw [hd] at d1 d2 hdd
  have HDD := hid hdd; have HD := hid hd
  clear hdd hd
  have h19 := hT.size
  have HT := hid hT
  clear hT
  have hsub : (i : Int) - 1 = ((i - 1 : Nat) : Int) := by omega
  have HSUB := hid hsub
  clear hsub
  have hE0 := blk_new w (.cells (tabRow 0 (.slice none 0 0) (.slice none 0 0) false) 219 (0, 0))
  have hF0 : Fr NoB w (w.alloc (.cells (tabRow 0 (.slice none 0 0) (.slice none 0 0) false) 219)) := (Fr.refl _ _).alloc _
  have hs0 : (w.alloc (.cells (tabRow 0 (.slice none 0 0) (.slice none 0 0) false) 219)).heap.size = w.heap.size + 1 := by simp
  have HE0 := hid hE0; have HF0 := hid hF0; have HS0 := hid hs0
  clear hE0 hF0 hs0
  unfold tabRow at HE0 HF0 HS0
  go_enter Tryz.func166, Tryz.ntmps166
  go_wp2_with fail
  generalize hw0 : (w.alloc (.cells #[.int .i64 0, .bool false, .slice none 0 0, .bool false, .bool false, .slice none 0 0, .bool false] 219)) = w0 at *
  clear hw0
  have hE0 : BlkAt w0 w.heap.size (tabRow 0 (.slice none 0 0) (.slice none 0 0) false) 219 := HE0.out
  have HE0 := hid hE0
  clear hE0
  -- the number 1
  have HNB := newBigInt 1 (by omega) w0
  unfold NewBig at HNB
  rw [HS0.out] at HNB
  refine HNB.mono ?_
  clear HNB
  rintro e w1 ⟨rfl, v, b1, b2, b3, b4⟩
  rw [limbs_one] at b2
  have hF1 : Fr NoB w w1 := HF0.out.trans b4 (fun _ _ h => h)
  have hE1 : BlkAt w1 w.heap.size (tabRow 0 (.slice none 0 0) (.slice none 0 0) false) 219 := b4.blk HE0.out (fun h => h)
  have hL := bigLsh_one (w.heap.size + 1) v false (i - 1) w1 b1 b2 b3 (by omega)
  rw [← HSUB.out] at hL
  have HL := hid hL; have HF1 := hid hF1; have HE1 := hid hE1
  clear b1 b2 b3 b4 hF1 hE1 hL
  go_wp2_with fail
  refine HL.out.mono ?_
  rintro e w2 ⟨rfl, v', b1, b2, b3, b4⟩
  have hF2 : Fr NoB w w2 := HF1.out.trans b4 (fun j hj h => by omega)
  have hE2 : BlkAt w2 w.heap.size (tabRow 0 (.slice none 0 0) (.slice none 0 0) false) 219 := b4.blk HE1.out (by omega)
  have HST := hid (bigString (w.heap.size + 1) 0 v' (2 ^ (i - 1)) w2 (by rw [blk_cell b1]; rfl) (by rw [blk_cell b1]; rfl) b2 (by rw [blen_pow]; omega) (HT.out.fr hF2 (fun _ _ h => h)))
  have HF2 := hid hF2; have HE2 := hid hE2
  clear b1 b2 b3 b4 hF2 hE2
  go_wp2_with fail
  refine HST.out.mono ?_
  rintro e w3 ⟨rfl, q⟩
  have hF3 : Fr NoB w w3 := HF2.out.trans q (fun _ _ h => h)
  have hE3 : BlkAt w3 w.heap.size (tabRow 0 (.slice none 0 0) (.slice none 0 0) false) 219 := q.blk HE2.out (fun h => h)
  have c0 : w3.cell? ⟨w.heap.size, 0, none⟩ = some (.int .i64 0) := by rw [blk_cell hE3]; rfl
  have g0 : w3.frozen? ⟨w.heap.size, 0, none⟩ = false := blk_frozen hE3 _
  have hsz : (ByteArray.mk (Lib.decDigits (2 ^ (i - 1))).toArray).size = d := by rw [str_size']; exact HDD.out
  have hE4 : BlkAt (w3.setCell ⟨w.heap.size, 0, none⟩ (.int .i64 (d : Int))) w.heap.size (tabRow d (.slice none 0 0) (.slice none 0 0) false) 219 := blk_set hE3 0 _
  have hF4 : Fr NoB w (w3.setCell ⟨w.heap.size, 0, none⟩ (.int .i64 (d : Int))) := Fr.setCell (S := NoB) (p := ⟨w.heap.size, 0, none⟩) hF3 (fun h => absurd h (Nat.lt_irrefl _)) _
  have hX := blk_new (w3.setCell ⟨w.heap.size, 0, none⟩ (.int .i64 (d : Int))) (.cells #[.bool false, .slice none 0 0, .bool false] 70 (0, 0))
  have hF5 : Fr NoB w ((w3.setCell ⟨w.heap.size, 0, none⟩ (.int .i64 (d : Int))).alloc (.cells #[.bool false, .slice none 0 0, .bool false] 70)) := hF4.alloc _
  have hE5 : BlkAt ((w3.setCell ⟨w.heap.size, 0, none⟩ (.int .i64 (d : Int))).alloc (.cells #[.bool false, .slice none 0 0, .bool false] 70)) w.heap.size (tabRow d (.slice none 0 0) (.slice none 0 0) false) 219 := blk_alloc hE4 _
  have hsz4 : (w3.setCell ⟨w.heap.size, 0, none⟩ (.int .i64 (d : Int))).heap.size = w3.heap.size := by simp
  rw [hsz4] at hX
  have hEl : w.heap.size < w3.heap.size := blk_lt hE3
  have HX := hid hX; have HF5 := hid hF5; have HE5 := hid hE5
  clear hE4 hF4 hX hF5 hE5 hE3 hF3 q hsz4
  go_wp2_with fail
  generalize ((w3.setCell ⟨w.heap.size, 0, none⟩ (.int .i64 (d : Int))).alloc (.cells #[.bool false, .slice none 0 0, .bool false] 70)) = w5 at *
  refine (bigSetInt64 w.heap.size 1 (tabRow d (.slice none 0 0) (.slice none 0 0) false) 219 false false 10 w5 HE5.out rfl rfl rfl (by omega)).mono ?_
  rintro e w6 ⟨rfl, v1, b1, b2, b3, b4⟩
  have hF6 : Fr NoB w w6 := HF5.out.trans b4 (fun j hj h => by have h : j = w.heap.size := h; omega)
  have hE6 : BlkAt w6 w.heap.size (tabRow d v1 (.slice none 0 0) false) 219 := b1
  have hX6 : BlkAt w6 w3.heap.size #[.bool false, .slice none 0 0, .bool false] 70 := b4.blk HX.out (by omega)
  have k0 : w6.cell? ⟨w.heap.size, 0, none⟩ = some (.int .i64 (d : Int)) := by rw [blk_cell hE6]; rfl
  have hxl5 : w3.heap.size < w5.heap.size := blk_lt HX.out
  rw [limbs_small (k := 10) (by omega) (by rw [WB_eq]; omega)] at b2
  have HF6 := hid hF6; have HE6 := hid hE6; have HX6 := hid hX6; have B2 := hid b2; have B3 := hid b3
  clear hF6 hE6 hX6 b1 b2 b3 b4
  go_wp2_with fail
  refine (bigSetInt64 w3.heap.size 0 _ 70 false false d w6 HX6.out rfl rfl rfl (by omega)).mono ?_
  rintro e w7 ⟨rfl, vy, b1, b2, b3, b4⟩
  have hF7 : Fr NoB w w7 := HF6.out.trans b4 (fun j hj h => by have h : j = w3.heap.size := h; omega)
  have hE7 : BlkAt w7 w.heap.size (tabRow d v1 (.slice none 0 0) false) 219 := b4.blk HE6.out (by omega)
  have hX7 : BlkAt w7 w3.heap.size #[.bool false, vy, .bool false] 70 := b1
  have hv7 : NatAt w7 v1 [10] := B2.out.fr b4 (fun g hg h => by have h : g = w3.heap.size := h; have := B3.out g hg; omega)
  rw [limbs_small (k := d) (by omega) (by rw [WB_eq]; omega)] at b2
  have hFd : Fr NoB w7 w7.drew := (Fr.refl _ _).drew
  have hxl6 : w3.heap.size < w6.heap.size := blk_lt HX6.out
  have HB := hid (bigExp w.heap.size 1 w.heap.size 1 w3.heap.size 0 (tabRow d v1 (.slice none 0 0) false) 219 false false v1 vy true d w7.drew hE7 rfl rfl rfl
    (by rw [blk_cell (show w7.drew.heap[w.heap.size]? = some (.cells (tabRow d v1 (.slice none 0 0) false) 219 (0, 0)) from hE7)]; rfl)
    (by rw [blk_cell (show w7.drew.heap[w.heap.size]? = some (.cells (tabRow d v1 (.slice none 0 0) false) 219 (0, 0)) from hE7)]; rfl)
    (by rw [blk_cell (show w7.drew.heap[w3.heap.size]? = some (.cells #[.bool false, vy, .bool false] 70 (0, 0)) from hX7)]; rfl)
    (by rw [blk_cell (show w7.drew.heap[w3.heap.size]? = some (.cells #[.bool false, vy, .bool false] 70 (0, 0)) from hX7)]; rfl)
    (hv7.fr hFd (fun _ _ h => h)) (b2.fr hFd (fun _ _ h => h)) ((HT.out.fr hF7 (fun _ _ h => h)).fr hFd (fun _ _ h => h)) d1 (by omega) (.inl ⟨rfl, rfl⟩) (by omega)
    (fun g hg => by have := B3.out g hg; omega) (fun g hg => by have := b3 g hg; omega) (by omega))
  have hE7s : w.heap.size < w7.heap.size := blk_lt hE7
  have HF7 := hid hF7
  clear hF7 hE7 hX7 hv7 b1 b2 b3 b4 hFd
  go_wp2_with fail
  go_region_with (first | (go_at_call 178; refine HB.out.mono ?_; rintro e w8 ⟨rfl, r⟩; have R := hid r; clear r))
  obtain ⟨v8, b1, b2, b3, b4⟩ := R.out
  have hF8 : Fr NoB w w8 := HF7.out.drew.trans b4 (fun j hj h => by have h : j = w.heap.size := h; omega)
  have hE8 : BlkAt w8 w.heap.size (tabRow d v8 (.slice none 0 0) false) 219 := b1
  have hFd : Fr NoB w8 w8.drew := (Fr.refl _ _).drew
  have hsd : w7.drew.heap.size = w7.heap.size := rfl
  have hE7l : w.heap.size < w7.drew.heap.size := hE7s
  have hv8 : ∀ g, natBlk v8 = some g → g ≠ w.heap.size := fun g hg => by have := b3 g hg; omega
  have HN := hid (bigNeg w.heap.size d (10 ^ d) v8 w8.drew hE8 (b2.fr hFd (fun _ _ h => h)) (pow_ne d) (Nat.le_trans (pow_len d (by omega)) (by omega)) hv8)
  have B2' := hid b2; have HF8 := hid hF8; have HV8 := hid hv8
  clear b1 b2 b3 b4 hF8 hE8 hFd hsd hE7l hv8 R
  go_wp2_with fail
  go_region_with (first | (go_at_call 197; refine HN.out.mono ?_; rintro e w9 ⟨rfl, r⟩; have R := hid r; clear r))
  obtain ⟨v9, b1, b2⟩ := R.out
  have N := hid (show TabRes w i (.returned (.pointer (some ⟨w.heap.size, 0, none⟩))) w9 from ⟨w.heap.size, v8, v9, rfl, Nat.le_refl _, by rw [HD.out]; exact b1, by rw [HD.out]; exact B2'.out.fr ((Fr.refl NoB w8).drew.mono (fun _ _ h => h.elim) |>.trans b2 (fun _ _ h => h)) (fun g hg h => HV8.out g hg h), HF8.out.drew.trans b2 (fun j hj h => by have h : j = w.heap.size := h; omega)⟩)
  clear b1 b2 R
  go_wp2_with fail
  go_ret
  exact N.out
end Go.Proofs.YteokhhepnoelhaaGreatDoor

set_option linter.unusedVariables false
set_option linter.unusedSimpArgs false
namespace Go.Proofs.YteokhhepnoelhaaGreatDoor
open Go.RowKit

theorem bigBitLen (D o : Nat) (v : Value) (V : Nat) (w : World) (h1 : w.cell? ⟨D, o + 1, none⟩ = some v) (hv : NatAt w v (limbs V)) :
    Calls Tryz.prog 74 #[.pointer (some ⟨D, o, none⟩)] w fun e w' => e = .returned (.int .i64 (blen V)) ∧ w = w' := by
  have HL := hid (natBitLen v V w hv)
  obtain ⟨A, c, rfl⟩ := hv.shape
  clear hv
  generalize (limbs V).length = n at *
  go_enter Tryz.func74, Tryz.ntmps74
  go_wp2_with (first | (go_at_call 114; go_in))
  refine HL.out.mono ?_
  rintro e w1 ⟨rfl, rfl⟩
  go_wp2_with fail
  go_ret
  exact ⟨rfl, rfl⟩

set_option maxRecDepth 100000 in
set_option maxHeartbeats 2000000 in
theorem numDigits_same (D o : Nat) (v : Value) (V b d : Nat) (w : World) (h1 : w.cell? ⟨D, o + 1, none⟩ = some v) (hv : NatAt w v (limbs V)) (hT : Thr w) (hb : blen V = b) (hb1 : 1 ≤ b) (hb2 : b < 128) (hd : tabDigits b = d) (ht : tabDigits (b + 1) = d) :
    Calls Tryz.prog 132 #[.pointer (some ⟨D, o, none⟩)] w fun e w' => e = .returned (.int .i64 (d : Int)) ∧ Fr NoB w w' := by
  have HB := bigBitLen D o v V w h1 hv
  rw [hb] at HB
  have HB := hid HB
  have HTB := digitsLookup b w hT hb1 (by omega)
  unfold TabRes at HTB
  rw [hd] at HTB
  have HTB := hid HTB
  clear hd
  have HT := hid hT
  have b0 : ((b : Int) == 0) = false := beq_eq_false_iff_ne.2 (by omega)
  have b1 : decide ((b : Int) < 128) = true := decide_eq_true (by omega)
  have b2 : (b : Int) ≤ 128 := by omega
  have b3 : IntKind.i64.wrap ((b : Int) + 1) = (b : Int) + 1 := IntWalk.i64_in _ (by omega)
  have hlt : (b : Int) < 128 := by omega
  clear h1 hv hT hb
  go_enter Tryz.func132, Tryz.ntmps132
  go_wp2_with fail
  refine HB.out.mono ?_
  rintro e w1 ⟨rfl, rfl⟩
  go_wp2_with fail
  refine HTB.out.mono ?_
  rintro e w2 ⟨E, v1, v2, rfl, hEl, hE, hn, hF⟩
  have hFd : Fr NoB w2 w2.drew := (Fr.refl _ _).drew
  have hN := digitsLookup (b + 1) w2.drew ((HT.out.fr hF (fun _ _ h => h)).fr hFd (fun _ _ h => h)) (by omega) (by omega)
  rw [show ((b + 1 : Nat) : Int) = (b : Int) + 1 by omega] at hN
  unfold TabRes at hN
  rw [ht] at hN
  have HN := hid hN
  have e0 : w2.cell? ⟨E, 0, none⟩ = some (.int .i64 (d : Int)) := by rw [blk_cell hE]; rfl
  have e0d : w2.drew.cell? ⟨E, 0, none⟩ = some (.int .i64 (d : Int)) := e0
  have HE := hid hE; have HF := hid hF
  clear hE hn hF hFd hN ht
  go_wp2_with fail
  go_region_with (first | (go_at_call 166; refine HN.out.mono ?_; rintro e w3 ⟨E', v1', v2', rfl, hEl', hE', hn', hF'⟩; have k3 : w3.cell? ⟨E', 0, none⟩ = some (.int .i64 (d : Int)) := (by rw [blk_cell hE']; rfl); have k4 : w3.cell? ⟨E, 0, none⟩ = some (.int .i64 (d : Int)) := hF'.cell' e0d (fun h => h); have HF3 := hid (show Fr NoB w w3 from HF.out.drew.trans hF' (fun _ _ h => h)); clear hE' hn' hF'))
  all_goals
    go_wp2_with fail
    go_ret
    exact ⟨rfl, HF3.out⟩
end Go.Proofs.YteokhhepnoelhaaGreatDoor

set_option linter.unusedVariables false
set_option linter.unusedSimpArgs false
namespace Go.Proofs.YteokhhepnoelhaaGreatDoor
open Go.RowKit

theorem Tryz.info36 : (Tryz.prog.info? 36).map (fun i => (i.zero, i.size, i.bytes)) = some (some (.int .u64 0), 1, 8) := by kernel_rfl

/-- A copy of a BigInt's number. -/
def MathRes (w : World) (xs : List Nat) (e : Ending) (w' : World) : Prop :=
  e = .returned (.pointer (some ⟨w.heap.size, 0, none⟩)) ∧ ∃ v', BlkAt w' w.heap.size #[.bool false, v'] 68 ∧ NatAt w' v' xs ∧ Fr NoB w w'

set_option maxRecDepth 100000 in
set_option maxHeartbeats 1000000 in
theorem mathBigInt (D o : Nat) (cs : Array Value) (t : TypeId) (v : Value) (xs : List Nat) (w : World) (hD : BlkAt w D cs t) (d0 : cs[o]? = some (.bool false)) (d1 : cs[o + 1]? = some v) (hv : NatAt w v xs) (hl : xs.length ≤ 900) :
    Calls Tryz.prog 49 #[.pointer (some ⟨D, o, none⟩)] w (MathRes w xs) := by
  have hb := blk_new w (.cells #[.bool false, .slice none 0 0] 68 (0, 0))
  have hF : Fr NoB w (w.alloc (.cells #[.bool false, .slice none 0 0] 68)) := (Fr.refl _ _).alloc _
  have hDl := blk_lt hD
  have HS := hid (intSet w.heap.size 0 D o #[.bool false, .slice none 0 0] cs 68 t false false (.slice none 0 0) v [] xs _ hb rfl rfl (hF.blk hD (fun h => h)) d0 d1 (NatAt.nil _) (hv.fr hF (fun _ _ h => h)) hl (fun e => by omega) (fun g h => by cases h))
  have fin : ∀ w1, SetRes (w.alloc (.cells #[.bool false, .slice none 0 0] 68)) w.heap.size 0 #[.bool false, .slice none 0 0] 68 (.slice none 0 0) false xs w1 → MathRes w xs (.returned (.pointer (some ⟨w.heap.size, 0, none⟩))) w1 := by
    rintro w1 ⟨v', r1, r2, r3, r4⟩
    exact ⟨rfl, v', r1, r2, hF.trans r4 (fun i hi h => by
      rcases h with h | h
      · omega
      · cases h)⟩
  have FIN := hid fin
  clear hb hF hD d0 d1 hv fin
  go_enter Tryz.func49, Tryz.ntmps49
  go_wp2_with fail
  refine HS.out.mono ?_
  rintro e w1 ⟨rfl, r⟩
  have N := hid (FIN.out w1 r)
  clear r
  go_wp2_with fail
  go_ret
  exact N.out

/-- The words of a number, in a slice of the call's own. -/
def WordsRes (w : World) (xs : List Nat) (e : Ending) (w' : World) : Prop :=
  ∃ v', e = .returned v' ∧ w'.ownsRow w.heap.size 36 1 v' xs.length (u64s xs) ∧ Fr NoB w w'

set_option maxRecDepth 100000 in
set_option maxHeartbeats 2000000 in
theorem implWords (D o : Nat) (cs : Array Value) (t : TypeId) (v : Value) (xs : List Nat) (w : World) (hD : BlkAt w D cs t) (d0 : cs[o]? = some (.bool false)) (d1 : cs[o + 1]? = some v) (hv : NatAt w v xs) (hl : xs.length ≤ 900) (hb : ∀ x ∈ xs, x < WB) :
    Calls Tryz.prog 38 #[.pointer (some ⟨D, o, none⟩)] w (WordsRes w xs) := by
  obtain ⟨i0, hi, hz0, hz1, hz2⟩ := info_parts Tryz.info36
  have HM := hid (mathBigInt D o cs t v xs w hD d0 d1 hv hl)
  have HI := hid hi
  clear hD d0 d1 hv hb
  go_enter Tryz.func38, Tryz.ntmps38
  go_wp2_with fail
  refine HM.out.mono ?_
  rintro e w1 ⟨rfl, v1, r1, r2, hF⟩
  have c1 : w1.cell? ⟨w.heap.size, 1, none⟩ = some v1 := by rw [blk_cell r1]; rfl
  have HN := hid r2; have HF := hid hF
  obtain ⟨A, c, rfl⟩ := r2.shape
  have hEl := blk_lt r1
  clear r1 r2 hF
  go_wp2_with (first | (go_at_call 50; go_in))
  have h0 : w1.ownsRow w1.heap.size 36 1 (.slice none 0 0) 0 (u64s (xs.take 0)) := ⟨by simp [u64s], .inl ⟨rfl, rfl⟩⟩
  have H0 := hid h0
  clear h0
  go_loopw [3, 10] (fun o i wr => ∃ (k : Nat) (ov : Value), ov = o ∧ k ≤ xs.length ∧ i = .int .i64 k ∧ Hid (wr.ownsRow w1.heap.size 36 1 ov k (u64s (xs.take k))) ∧ Hid (Below w1.heap.size w1 wr)) (fun _ i _ => xs.length - (intOf i).toNat)
  case atStart => exact ⟨0, _, rfl, Nat.zero_le _, rfl, H0, hid (Below.refl _ _)⟩
  case round =>
    obtain ⟨k, ov, rfl, hk, rfl, hO, hB⟩ := hrel
    by_cases hlt : k < xs.length
    · obtain ⟨x, hxk⟩ : ∃ x, xs[k]? = some x := ⟨xs[k], List.getElem?_eq_getElem hlt⟩
      obtain ⟨g, cap, hge, hc, hcap, hgl, hcm, _⟩ := HN.out.cell (fun h => by rw [h] at hlt; simp at hlt)
      cases hge
      have hFr : Fr NoB w1 wr := Fr.of_below hB.out _
      have hcell : wr.cell? ⟨g, k, none⟩ = some (.int .u64 (x : Int)) := hFr.cell' (hc k x hxk) (fun h => h)
      have htk : u64s (xs.take (k + 1)) = u64s (xs.take k) ++ [.int .u64 (x : Int)] := by
        rw [List.take_add_one, hxk, u64s_append]; rfl
      have HTK := hid htk
      have hbs : w1.heap.size ≤ wr.heap.size := hB.out.size
      clear hxk hc htk hFr
      go_wp2_with (at_builtin; refine wpList_append_own _ rfl (.tmp 14) (.tmp 16) 28 rfl w1.heap.size 36 i0 (.int .u64 0) 1 8 Tryz.underlying28 HI.out hz0 hz1 hz2 rfl (by decide) ov k (u64s (xs.take k)) rfl (hO.out.alloc _) ⟨wr.heap.size, 0, none⟩ 1 1 [.int .u64 (x : Int)] rfl rfl (cell_one_new _ _ _) (by simp [Value.oneCell']) (by unfold maxLen; omega) (by omega) (by simp; omega) ?_; intro v' w5 hown hgr _; refine Hid.out ?_)
      refine hid ?_
      rw [← HTK.out] at hown
      have HB5 : Hid (Below w1.heap.size w1 w5) := hid ((hB.out.alloc hbs _).grown hgr (by simp; omega) (by
        obtain ⟨_, h | ⟨g', cap', cur', h, h2, _⟩⟩ := hO.out
        · rw [h.1]; intro b hb; cases hb
        · rw [h]; intro b hb; cases hb; exact h2))
      have HO5 := hid hown
      clear hown hgr
      go_wp2_with fail
      go_roundw
      case rel => first | exact ⟨k + 1, _, rfl, by omega, by go_num, HO5, HB5⟩ | ((repeat apply Exists.intro); exact ⟨⟨k + 1, _, rfl, by omega, by go_num, HO5, HB5⟩, rfl⟩)
      case measure => simp [intOf]; omega
    · obtain rfl : k = xs.length := by omega
      have hO2 := hO.out
      rw [List.take_length] at hO2
      have hF2 : Fr NoB w wr := HF.out.trans (Fr.of_below hB.out NoB) (fun _ _ h => h)
      have hO3 : wr.ownsRow w.heap.size 36 1 ov xs.length (u64s xs) := by
        obtain ⟨h1, h | ⟨g', cap', cur', h, h2, h3⟩⟩ := hO2
        · exact ⟨h1, .inl h⟩
        · exact ⟨h1, .inr ⟨g', cap', cur', h, by omega, h3⟩⟩
      have N := hid (show WordsRes w xs (.returned ov) wr from ⟨ov, rfl, hO3, hF2⟩)
      clear hO2 hF2 hO3
      go_wp2_with fail
      go_ret
      exact N.out
end Go.Proofs.YteokhhepnoelhaaGreatDoor

set_option linter.unusedVariables false
set_option linter.unusedSimpArgs false
namespace Go.Proofs.YteokhhepnoelhaaGreatDoor
open Go.RowKit

/-- A finite decimal as plain data. -/
def ToldRes (w : World) (neg : Bool) (V : Nat) (e0 : Int) (e : Ending) (w' : World) : Prop :=
  ∃ A n c, e = .returned (.agg #[.int .i64 0, .bool neg, .slice A n c, .int .i64 e0]) ∧ w'.ownsRow w.heap.size 36 1 (.slice A n c) (limbs V).length (u64s (limbs V)) ∧ Fr NoB w w'

theorem ownsRow_shape {w : World} {B n : Nat} {v : Value} {xs : List Value} (h : w.ownsRow B 36 1 v n xs) : ∃ A m c, v = .slice A m c := by
  obtain ⟨_, h | ⟨g', cap', cur', h, _⟩⟩ := h
  · exact ⟨_, _, _, h.1⟩
  · exact ⟨_, _, _, h⟩

set_option maxRecDepth 100000 in
set_option maxHeartbeats 2000000 in
theorem told_num (D : Nat) (neg : Bool) (e0 : Int) (v : Value) (V : Nat) (w : World) (hD : DecAt w D 0 neg e0 false v false) (hv : NatAt w v (limbs V)) (hl : (limbs V).length ≤ 900) (he0 : -1000000 ≤ e0) (he1 : e0 ≤ 1000000) :
    Calls Tryz.prog 25 #[.pointer (some ⟨D, 0, none⟩)] w (ToldRes w neg V e0) := by
  obtain ⟨⟨h0, h1, h2, h3, h4, h5⟩, f0, f1, f2, f3, f4, f5⟩ := hD.cells
  have hlt := blk_lt hD
  have HD := hid hD; have HV := hid hv
  clear hD hv
  go_enter Tryz.func25, Tryz.ntmps25
  go_wp2_with fail
  have hF0 : Fr NoB w ((w.alloc (.cells #[.int .i64 0, .bool false, .slice none 0 0, .int .i64 0] 30)).alloc (.cells #[.int .i64 0, .bool neg, .slice none 0 0, .int .i64 0] 30)) := ((Fr.refl _ _).alloc _).alloc _
  have hR : ((w.alloc (.cells #[.int .i64 0, .bool false, .slice none 0 0, .int .i64 0] 30)).alloc (.cells #[.int .i64 0, .bool neg, .slice none 0 0, .int .i64 0] 30)).heap[w.heap.size]? = some (.cells #[.int .i64 0, .bool false, .slice none 0 0, .int .i64 0] 30 (0, 0)) := blk_alloc (blk_new w _) _
  have hO : ((w.alloc (.cells #[.int .i64 0, .bool false, .slice none 0 0, .int .i64 0] 30)).alloc (.cells #[.int .i64 0, .bool neg, .slice none 0 0, .int .i64 0] 30)).heap[w.heap.size + 1]? = some (.cells #[.int .i64 0, .bool neg, .slice none 0 0, .int .i64 0] 30 (0, 0)) := by
    have := blk_new (w.alloc (.cells #[.int .i64 0, .bool false, .slice none 0 0, .int .i64 0] 30)) (.cells #[.int .i64 0, .bool neg, .slice none 0 0, .int .i64 0] 30 (0, 0))
    rw [World.size_alloc] at this
    exact this
  generalize ((w.alloc (.cells #[.int .i64 0, .bool false, .slice none 0 0, .int .i64 0] 30)).alloc (.cells #[.int .i64 0, .bool neg, .slice none 0 0, .int .i64 0] 30)) = W at *
  have hDW := HD.out.fr hF0 (fun h => h)
  have hFd : Fr NoB W W.drew := (Fr.refl _ _).drew
  have HWD := hid (implWords D 3 _ 72 v (limbs V) W.drew (show BlkAt W.drew D #[.int .i8 0, .bool neg, .int .i32 e0, .bool false, v, .bool false] 72 from hDW) rfl rfl ((HV.out.fr hF0 (fun _ _ h => h)).fr hFd (fun _ _ h => h)) hl (limbs_lt V))
  have q2 : W.cell? ⟨D, 2, none⟩ = some (.int .i32 e0) := by rw [blk_cell hDW]; rfl
  have o2 : W.cell? ⟨w.heap.size + 1, 2, none⟩ = some (.slice none 0 0) := by rw [blk_cell hO]; rfl
  have o3 : W.cell? ⟨w.heap.size + 1, 3, none⟩ = some (.int .i64 0) := by rw [blk_cell hO]; rfl
  have HF0 := hid hF0; have HR := hid hR; have HO := hid hO
  have hsW : w.heap.size + 1 < W.heap.size := blk_lt hO
  clear hF0 hR hO hDW hFd h0 h1 h2 h3 h4 h5 f0 f1 f2 f3 f4 f5
  go_region_with (first | (go_at_call 38; refine HWD.out.mono ?_; rintro e w2 ⟨v', rfl, hown, hF2⟩; obtain ⟨A, n, c, rfl⟩ := ownsRow_shape hown; have q2' : w2.cell? ⟨D, 2, none⟩ = some (.int .i32 e0) := hF2.cell' (w := W.drew) q2 (fun h => h); have o2' : w2.cell? ⟨w.heap.size + 1, 2, none⟩ = some (.slice none 0 0) := hF2.cell' (w := W.drew) o2 (fun h => h); have o3' : w2.cell? ⟨w.heap.size + 1, 3, none⟩ = some (.int .i64 0) := hF2.cell' (w := W.drew) o3 (fun h => h); have hO2 : w2.heap[w.heap.size + 1]? = some (.cells #[.int .i64 0, .bool neg, .slice none 0 0, .int .i64 0] 30 (0, 0)) := hF2.blk (w := W.drew) HO.out (fun h => h); have u2 : w2.frozen? ⟨w.heap.size + 1, 2, none⟩ = false := blk_frozen hO2 _; have u3 : w2.frozen? ⟨w.heap.size + 1, 3, none⟩ = false := blk_frozen hO2 _; have HO2 := hid hO2; have HF2 := hid hF2; have HOWN := hid hown; clear hO2 hF2 hown))
  all_goals
    have s2 := blk_set HO2.out 2 (.slice A n c)
    have s3 := blk_set s2 3 (.int .i64 (IntKind.i64.wrap e0))
    have hR2 : w2.heap[w.heap.size]? = some (.cells #[.int .i64 0, .bool false, .slice none 0 0, .int .i64 0] 30 (0, 0)) := HF2.out.blk (w := W.drew) HR.out (fun h => h)
    have hFs : Fr (fun i => i = w.heap.size + 1) w2 ((w2.setCell ⟨w.heap.size + 1, 2, none⟩ (.slice A n c)).setCell ⟨w.heap.size + 1, 3, none⟩ (.int .i64 (IntKind.i64.wrap e0))) :=
      Fr.setCell (S := fun i => i = w.heap.size + 1) (p := ⟨w.heap.size + 1, 3, none⟩) (Fr.setCell (S := fun i => i = w.heap.size + 1) (p := ⟨w.heap.size + 1, 2, none⟩) (Fr.refl _ _) (fun _ => rfl) _) (fun _ => rfl) _
    have hR3 := hFs.blk hR2 (by omega)
    have hown3 : ((w2.setCell ⟨w.heap.size + 1, 2, none⟩ (.slice A n c)).setCell ⟨w.heap.size + 1, 3, none⟩ (.int .i64 (IntKind.i64.wrap e0))).ownsRow W.heap.size 36 1 (.slice A n c) (limbs V).length (u64s (limbs V)) := by
      obtain ⟨a1, a2 | ⟨g', cap', cur', a2, a3, a4, a5⟩⟩ := HOWN.out
      · exact ⟨a1, .inl a2⟩
      · have a3 : W.heap.size ≤ g' := a3
        exact ⟨a1, .inr ⟨g', cap', cur', a2, a3, hFs.blk a4 (by omega), a5⟩⟩
    have hF3 : Fr NoB w ((w2.setCell ⟨w.heap.size + 1, 2, none⟩ (.slice A n c)).setCell ⟨w.heap.size + 1, 3, none⟩ (.int .i64 (IntKind.i64.wrap e0))) :=
      (HF0.out.trans ((Fr.refl NoB W).drew.trans HF2.out (fun _ _ h => h)) (fun _ _ h => h)).trans hFs (fun i hi h => by have h : i = w.heap.size + 1 := h; omega)
    have s3' : ((w2.setCell ⟨w.heap.size + 1, 2, none⟩ (.slice A n c)).setCell ⟨w.heap.size + 1, 3, none⟩ (.int .i64 (IntKind.i64.wrap e0))).heap[w.heap.size + 1]? = some (.cells #[.int .i64 0, .bool neg, .slice A n c, .int .i64 e0] 30 (0, 0)) := by
      have := s3
      rw [show IntKind.i64.wrap e0 = e0 from IntWalk.i64_in _ (by omega)] at this ⊢
      exact this
    clear s2 s3 hR2 hFs q2' o2' o3' u2 u3 HO2 HF2 HOWN q2 o2 o3
    generalize ((w2.setCell ⟨w.heap.size + 1, 2, none⟩ (.slice A n c)).setCell ⟨w.heap.size + 1, 3, none⟩ (.int .i64 (IntKind.i64.wrap e0))) = w3 at *
    have o0 := blk_cell s3' 0; have o1 := blk_cell s3' 1; have o2 := blk_cell s3' 2; have o3 := blk_cell s3' 3
    have r0 := blk_cell hR3 0; have r1 := blk_cell hR3 1; have r2 := blk_cell hR3 2; have r3 := blk_cell hR3 3
    have g0 := blk_frozen hR3 0; have g1 := blk_frozen hR3 1; have g2 := blk_frozen hR3 2; have g3 := blk_frozen hR3 3
    simp only [List.getElem?_toArray, List.getElem?_cons_zero, List.getElem?_cons_succ] at o0 o1 o2 o3 r0 r1 r2 r3
    have HOWN := hid hown3; have HF3 := hid hF3; have HR3 := hid hR3
    clear hown3 hF3 hR3 s3'
    go_wp2_with fail
    refine bodyPost_ret (v := .agg #[.int .i64 0, .bool neg, .slice A n c, .int .i64 e0]) (by simp [results, Tryz.results25, go_sem, r0, r1, r2, r3]) rfl ?_
    have fin : ∀ a : World, Fr (fun i => i = w.heap.size) w3 a → ToldRes w neg V e0 (.returned (.agg #[.int .i64 0, .bool neg, .slice A n c, .int .i64 e0])) a := by
      intro a hFe
      refine ⟨A, n, c, rfl, ?_, HF3.out.trans hFe (fun i hi h => by omega)⟩
      obtain ⟨a1, a2 | ⟨g', cap', cur', a2, a3, a4, a5⟩⟩ := HOWN.out
      · exact ⟨a1, .inl a2⟩
      · exact ⟨a1, .inr ⟨g', cap', cur', a2, by omega, hFe.blk a4 (by omega), a5⟩⟩
    exact fin _ (Fr.setCell (S := fun i => i = w.heap.size) (p := ⟨w.heap.size, 3, none⟩) (Fr.setCell (S := fun i => i = w.heap.size) (p := ⟨w.heap.size, 2, none⟩) (Fr.setCell (S := fun i => i = w.heap.size) (p := ⟨w.heap.size, 1, none⟩) (Fr.setCell (S := fun i => i = w.heap.size) (p := ⟨w.heap.size, 0, none⟩) (Fr.refl _ _) (fun _ => rfl) _) (fun _ => rfl) _) (fun _ => rfl) _) (fun _ => rfl) _)
end Go.Proofs.YteokhhepnoelhaaGreatDoor

set_option linter.unusedVariables false
set_option linter.unusedSimpArgs false
namespace Go.Proofs.YteokhhepnoelhaaGreatDoor
open Go.RowKit

/-- NumDigits answers nd at every decimal that holds V. -/
def DigOk (V : Nat) (nd : Int) : Prop := ∀ (D : Nat) (f : Int) (n : Bool) (e0 : Int) (v : Value) (w : World), DecAt w D f n e0 false v false → NatAt w v (limbs V) → Thr w →
  Calls Tryz.prog 88 #[.pointer (some ⟨D, 0, none⟩)] w fun e w' => e = .returned (.int .i64 nd) ∧ Fr NoB w w'

theorem digOk_same (V b d : Nat) (hb : blen V = b) (hb1 : 1 ≤ b) (hb2 : b < 128) (hd : tabDigits b = d) (ht : tabDigits (b + 1) = d) : DigOk V (d : Int) := by
  intro D f n e0 v w hD hv hT
  have hN := hid (numDigits_same D 3 v V b d w (by rw [blk_cell hD]; rfl) hv hT hb hb1 hb2 hd ht)
  clear hD hv hT hb hd ht
  go_enter Tryz.func88, Tryz.ntmps88
  go_wp2_with fail
  refine hN.out.mono ?_
  rintro e w1 ⟨rfl, hF⟩
  have HF := hid hF
  clear hF
  go_wp2_with fail
  go_ret
  exact ⟨rfl, HF.out⟩

def NumRes (w : World) (D : Nat) (neg : Bool) (V : Nat) (e0 : Int) (e : Ending) (w' : World) : Prop :=
  e = .returned (.tuple #[.pointer (some ⟨D, 0, none⟩), .int .u32 0, .nilIface]) ∧ ∃ v, NatAt w' v (limbs V) ∧ DecAt w' D 0 neg e0 false v false ∧ Fr (fun i => i = D) w w'

set_option maxRecDepth 100000 in
set_option maxHeartbeats 1000000 in
theorem ctxSetString_num (D cb : Nat) (l : List UInt8) (neg : Bool) (ds : List UInt8) (es : List Int) (nd : Int) (w : World) (traps : Int) (r : ByteArray) (hC : CtxAt w cb 0 100000 (-100000) traps r) (hne : cb ≠ D) (hT : Thr w) (hD19 : 19 ≤ D) (hDl : D < w.heap.size)
    (hN : DigOk (decVal ds) nd) (hnd : 1 ≤ nd) (hnd' : nd ≤ 1000) (helo : -90000 ≤ es.sum) (hehi : es.sum ≤ 90000)
    (hS : Calls Tryz.prog 41 #[.pointer (some ⟨D, 0, none⟩), .pointer (some ⟨cb, 0, none⟩), .string ⟨l.toArray⟩] w (GoodEnd w D neg ds es)) :
    Calls Tryz.prog 30 #[.pointer (some ⟨cb, 0, none⟩), .pointer (some ⟨D, 0, none⟩), .string ⟨l.toArray⟩] w (NumRes w D neg (decVal ds) es.sum) := by
  have HC := hid hC; have HS := hid hS; have HT := hid hT; have HN := hid hN
  clear hC hS hT hN
  go_enter Tryz.func30, Tryz.ntmps30
  go_wp2_with fail
  refine HS.out.mono ?_
  rintro e w1 ⟨rfl, v, hv, hD1, hF1, hg⟩
  obtain ⟨A, c, hsh⟩ := hv.shape
  have hT1 := HT.out.fr hF1 (fun i hi h => by have h : i = D := h; omega)
  have hR := round_zero D cb 0 neg es.sum false A (limbs (decVal ds)).length c false nd w1 (by rw [← hsh]; exact hD1) traps r (HC.out.fr hF1 hne) (by omega) (by omega) hnd hnd' (by omega) (by omega) (HN.out D 0 neg es.sum v w1 hD1 hv hT1)
  rw [← hsh] at hR
  have HR := hid hR; have HV := hid hv; have HG := hid hg; have HF1 := hid hF1
  clear hR hv hg hF1 hD1 hT1 hsh
  go_wp2_with fail
  refine HR.out.mono ?_
  rintro e w2 ⟨rfl, hD2, hF2⟩
  have hN : NumRes w D neg (decVal ds) es.sum (.returned (.tuple #[.pointer (some ⟨D, 0, none⟩), .int .u32 0, .nilIface])) w2 :=
    ⟨rfl, v, HV.out.fr hF2 (fun g hg h => by have h : g = D := h; have := HG.out g hg; omega), hD2, HF1.out.trans hF2 (fun _ _ h => h)⟩
  have N := hid hN
  clear hD2 hF2 hN
  go_wp2_with (go_at_call 43; go_in)
  go_ret3
  exact N.out

/-- impl.Parse at a number. -/
def ParseRes (w : World) (neg : Bool) (V : Nat) (e0 : Int) (e : Ending) (w' : World) : Prop :=
  ∃ A n c, e = .returned (.tuple #[.agg #[.int .i64 0, .bool neg, .slice A n c, .int .i64 e0], .int .i64 0, .bool true]) ∧ w'.ownsRow w.heap.size 36 1 (.slice A n c) (limbs V).length (u64s (limbs V)) ∧ Fr NoB w w'

set_option maxRecDepth 100000 in
set_option maxHeartbeats 1000000 in
theorem parse_num (l : List UInt8) (neg : Bool) (ds : List UInt8) (es : List Int) (nd : Int) (w : World) (r : ByteArray) (hC : CtxAt w 0 0 100000 (-100000) 1967 r) (hT : Thr w)
    (hN : DigOk (decVal ds) nd) (hnd : 1 ≤ nd) (hnd' : nd ≤ 1000) (helo : -90000 ≤ es.sum) (hehi : es.sum ≤ 90000) (hlen : (limbs (decVal ds)).length ≤ 900)
    (hS : ∀ (D : Nat) (w1 : World), DecAt w1 D 0 false 0 false (.slice none 0 0) false → Fr NoB w w1 → w.heap.size ≤ D → Calls Tryz.prog 41 #[.pointer (some ⟨D, 0, none⟩), .pointer (some ⟨0, 0, none⟩), .string ⟨l.toArray⟩] w1 (GoodEnd w1 D neg ds es)) :
    Calls Tryz.prog 9 #[.string ⟨l.toArray⟩] w (ParseRes w neg (decVal ds) es.sum) := by
  have HC := hid hC; have HS := hid hS; have HT := hid hT; have HN := hid hN
  have h19 := hT.size
  clear hC hS hT hN
  go_enter Tryz.func9, Tryz.ntmps9
  go_wp2_with (first | (go_at_call 23; go_in) | (go_at_call 37; go_in))
  have hR0 : ((w.alloc (.cells #[.int .i64 0, .bool false, .slice none 0 0, .int .i64 0] 30)).alloc (.cells #[.int .i8 0, .bool false, .int .i32 0, .bool false, .slice none 0 0, .bool false] 72)).heap[w.heap.size]? = some (.cells #[.int .i64 0, .bool false, .slice none 0 0, .int .i64 0] 30 (0, 0)) :=
    blk_alloc (blk_new w _) _
  have hD0 : DecAt ((w.alloc (.cells #[.int .i64 0, .bool false, .slice none 0 0, .int .i64 0] 30)).alloc (.cells #[.int .i8 0, .bool false, .int .i32 0, .bool false, .slice none 0 0, .bool false] 72)) (w.heap.size + 1) 0 false 0 false (.slice none 0 0) false := by
    have := blk_new (w.alloc (.cells #[.int .i64 0, .bool false, .slice none 0 0, .int .i64 0] 30)) (.cells #[.int .i8 0, .bool false, .int .i32 0, .bool false, .slice none 0 0, .bool false] 72 (0, 0))
    rw [World.size_alloc] at this
    exact this
  have hF0 : Fr NoB w ((w.alloc (.cells #[.int .i64 0, .bool false, .slice none 0 0, .int .i64 0] 30)).alloc (.cells #[.int .i8 0, .bool false, .int .i32 0, .bool false, .slice none 0 0, .bool false] 72)) :=
    ((Fr.refl _ _).alloc _).alloc _
  have HR0 := hid hR0; have HD0 := hid hD0; have HF0 := hid hF0
  clear hR0 hD0 hF0
  generalize hW : ((w.alloc (.cells #[.int .i64 0, .bool false, .slice none 0 0, .int .i64 0] 30)).alloc (.cells #[.int .i8 0, .bool false, .int .i32 0, .bool false, .slice none 0 0, .bool false] 72)) = W at *
  clear hW
  have hWl : w.heap.size + 1 < W.heap.size := blk_lt HD0.out
  refine (ctxSetString_num (w.heap.size + 1) 0 l neg ds es nd W 1967 r (HC.out.fr HF0.out (fun h => h)) (by omega) (HT.out.fr HF0.out (fun _ _ h => h)) (by omega) hWl HN.out hnd hnd' helo hehi (HS.out _ _ HD0.out HF0.out (by omega))).mono ?_
  rintro e w1 ⟨rfl, v, hv1, hD1, hF1⟩
  have HR1 := hid (hF1.blk HR0.out (by omega))
  have HD1 := hid hD1; have HV1 := hid hv1
  have HF1 := hid ((HF0.out.trans hF1 (fun i hi h => by omega) : Fr NoB w w1))
  clear hD1 hF1 hv1
  go_wp2_with fail
  refine (told_num _ neg es.sum v (decVal ds) _ HD1.out HV1.out hlen (by omega) (by omega)).mono ?_
  rintro e w2 ⟨A, n, c, rfl, hown, hF2⟩
  have hR2 := hF2.blk HR1.out (fun h => h)
  have HF2 := hid (HF1.out.trans hF2 (fun _ _ h => h)); have HOWN := hid hown
  have hR1l := blk_lt HR1.out
  have r0 := blk_cell hR2 0; have r1 := blk_cell hR2 1; have r2 := blk_cell hR2 2; have r3 := blk_cell hR2 3
  have g0 := blk_frozen hR2 0; have g1 := blk_frozen hR2 1; have g2 := blk_frozen hR2 2; have g3 := blk_frozen hR2 3
  clear hF2 hR2 hown
  simp only [List.getElem?_toArray, List.getElem?_cons_zero, List.getElem?_cons_succ] at r0 r1 r2 r3
  go_wp2_with (go_at_call 24; refine (conditions_0 _).mono ?_; rintro e w3 ⟨rfl, rfl⟩)
  refine bodyPost_ret (v := .tuple #[.agg #[.int .i64 0, .bool neg, .slice A n c, .int .i64 es.sum], .int .i64 0, .bool true]) (by simp [results, Tryz.results9, go_sem, r0, r1, r2, r3]) rfl ?_
  have fin : ∀ a : World, Fr (fun i => i = w.heap.size) w2 a → ParseRes w neg (decVal ds) es.sum (.returned (.tuple #[.agg #[.int .i64 0, .bool neg, .slice A n c, .int .i64 es.sum], .int .i64 0, .bool true])) a := by
    intro a hFe
    refine ⟨A, n, c, rfl, ?_, HF2.out.trans hFe (fun i hi h => by omega)⟩
    obtain ⟨a1, a2 | ⟨g', cap', cur', a2, a3, a4, a5⟩⟩ := HOWN.out
    · exact ⟨a1, .inl a2⟩
    · exact ⟨a1, .inr ⟨g', cap', cur', a2, by omega, hFe.blk a4 (by omega), a5⟩⟩
  exact fin _ (Fr.setCell (S := fun i => i = w.heap.size) (p := ⟨w.heap.size, 3, none⟩) (Fr.setCell (S := fun i => i = w.heap.size) (p := ⟨w.heap.size, 2, none⟩) (Fr.setCell (S := fun i => i = w.heap.size) (p := ⟨w.heap.size, 1, none⟩) (Fr.setCell (S := fun i => i = w.heap.size) (p := ⟨w.heap.size, 0, none⟩) (Fr.refl _ _) (fun _ => rfl) _) (fun _ => rfl) _) (fun _ => rfl) _) (fun _ => rfl) _)
end Go.Proofs.YteokhhepnoelhaaGreatDoor

set_option linter.unusedVariables false
set_option linter.unusedSimpArgs false
namespace Go.Proofs.YteokhhepnoelhaaGreatDoor
open Go.RowKit

theorem expSets_all (cb D : Nat) (neg : Bool) (ds : List UInt8) (es : List Int) (X : Nat) (v : Value) (nd : Int) (w1 : World) (B : Nat) (hes : SmallEs es 2) (hX : ExpsAt w1 B X es) (hD : DecAt w1 D 0 neg 0 false v false)
    (prec traps : Int) (r : ByteArray) (hC : CtxAt w1 cb prec 100000 (-100000) traps r) (hnd : 1 ≤ nd) (hnd' : nd ≤ 1000)
    (hN : Calls Tryz.prog 88 #[.pointer (some ⟨D, 0, none⟩)] w1 fun e w' => e = .returned (.int .i64 nd) ∧ Fr NoB w1 w') : ExpSets cb D neg ds es X w1 := by
  obtain ⟨h1, h2⟩ := hes
  unfold ExpSets
  match es, h1, h2, hX with
  | [], _, _, _ => exact setExponent_none_asked D cb 0 neg 0 false v false nd 0 X 2 w1 hD prec traps r hC hnd hnd' (by omega) (by omega) (.inl rfl) hN
  | [a], _, h2, hX =>
    have ha := h2 a (by simp)
    have := setExponent_one_asked D cb 0 neg 0 false v false nd 0 a X 2 w1 hD prec traps r hC (hX.cell 0 a rfl) (by omega) (by omega) hnd hnd' (by omega) (by omega) (.inl rfl) hN
    rw [show [a].sum = a by simp]
    exact this
  | [a, b], _, h2, hX =>
    have ha := h2 a (by simp)
    have hb := h2 b (by simp)
    have := setExponent_two_asked D cb 0 neg 0 false v false nd 0 a b X 2 w1 hD prec traps r hC (hX.cell 0 a rfl) (hX.cell 1 b rfl) (by omega) (by omega) (by omega) (by omega) (by omega) (by omega) hnd hnd' (by omega) (by omega) (.inl rfl) hN
    rw [show [a, b].sum = a + b by simp]
    exact this
  | _ :: _ :: _ :: _, h1, _, _ => exact absurd h1 (by simp only [List.length_cons]; omega)

theorem SmallEs.sum {es : List Int} (h : SmallEs es 2) : -40000 ≤ es.sum ∧ es.sum ≤ 40000 := by
  obtain ⟨h1, h2⟩ := h
  match es, h1, h2 with
  | [], _, _ => simp
  | [a], _, h2 => have ha := h2 a (by simp); simp; omega
  | [a, b], _, h2 => have ha := h2 a (by simp); have hb := h2 b (by simp); simp; omega
  | _ :: _ :: _ :: _, h1, _ => exact absurd h1 (by simp only [List.length_cons]; omega)

/-- setString at a text that is a number by its shape. -/
theorem setString_text (l ds : List UInt8) (neg : Bool) (e : Int) (nd : Int) (w w1 : World) (D cb : Nat) {a : Addr} {tpS tpR : TypeId} {pS pR : Value} {r : ByteArray} (hV : Vars w a tpS tpR pS pR r) (hT : Thr w) (h : NumLow l neg ds e) (hl : l.length ≤ 250)
    (hN : DigOk (decVal ds) nd) (hnd : 1 ≤ nd) (hnd' : nd ≤ 1000) (hD : DecAt w1 D 0 false 0 false (.slice none 0 0) false) (hF : Fr NoB w w1) (hge : w.heap.size ≤ D)
    (prec traps : Int) (rr : ByteArray) (hC : ∀ wx, Fr (fun i => i = D) w1 wx → CtxAt wx cb prec 100000 (-100000) traps rr) :
    Calls Tryz.prog 41 #[.pointer (some ⟨D, 0, none⟩), .pointer (some ⟨cb, 0, none⟩), .string ⟨l.toArray⟩] w1 (fun en w' => ∃ es, es.sum = e ∧ SmallEs es 2 ∧ GoodEnd w1 D neg ds es en w') := by
  have h19 := hT.size
  have hL := lowerAt D false l w w1 hV hF hge (by omega)
  have hVx : ∀ wx, Fr (fun i => i = D) w1 wx → Vars wx a tpS tpR pS pR r := fun wx hx =>
    hV.below (((hF.mono (S' := fun i => i = D) (fun _ _ h => h.elim)).trans hx (fun _ _ h => h)).to_below (Nat.le_refl _) (fun i hi h => by have : i = D := h; omega))
  have hTx : ∀ wx, Fr (fun i => i = D) w1 wx → Thr wx := fun wx hx => (hT.fr hF (fun _ _ h => h)).fr hx (fun i hi h => by have h : i = D := h; omega)
  obtain ⟨es, r1, r2, r3⟩ := h.read
  refine (setString_num D cb false l _ w1 hD hL (by omega) h.pre1 h.pre2 h.no_n (by have := h.len; omega) tpS tpR pS pR (fun wx hx => (hVx wx hx).eS) (fun wx hx => (hVx wx hx).eR) (by omega) a (hVx w1 (Fr.refl _ _)).eof ?_).mono ?_
  · intro ds' es' v X w2 h' hv hD2 hF2 hg hE hX
    rw [r1] at h'
    cases h'
    rw [h.neg] at hD2 ⊢
    exact expSets_all cb D neg ds es X v nd w2 _ r3 hE hD2 prec traps rr (hC w2 hF2) hnd hnd' (hN D 0 neg 0 v w2 hD2 hv (hTx w2 hF2))
  · intro en w' h'
    unfold NumEnd at h'
    rw [r1, h.neg] at h'
    exact ⟨es, r2, r3, h'⟩

/-- impl.Parse at a text that is a number by its shape. -/
theorem parse_text (l ds : List UInt8) (neg : Bool) (e : Int) (nd : Int) (w : World) {a : Addr} {tpS tpR : TypeId} {pS pR : Value} {r : ByteArray} (hV : Vars w a tpS tpR pS pR r) (hT : Thr w) (h : NumLow l neg ds e) (hl : l.length ≤ 250)
    (hN : DigOk (decVal ds) nd) (hnd : 1 ≤ nd) (hnd' : nd ≤ 1000) (hlen : (limbs (decVal ds)).length ≤ 900) :
    Calls Tryz.prog 9 #[.string ⟨l.toArray⟩] w (ParseRes w neg (decVal ds) e) := by
  obtain ⟨es, r1, r2, r3⟩ := h.read
  have hs := r3.sum
  rw [← r2]
  refine parse_num l neg ds es nd w r hV.ctx hT hN hnd hnd' (by omega) (by omega) hlen ?_
  intro D w1 hD hF hge
  refine (setString_text l ds neg e nd w w1 D 0 hV hT h hl hN hnd hnd' hD hF hge 0 1967 r (fun wx hx => ?_)).mono ?_
  · exact (hV.below (((hF.mono (S' := fun i => i = D) (fun _ _ h => h.elim)).trans hx (fun _ _ h => h)).to_below (Nat.le_refl _) (fun i hi h => by have : i = D := h; omega))).ctx
  · rintro en w' ⟨es', s1, s2, en1, v, hv, hD', hF', hg⟩
    rw [s1, ← r2] at hD'
    exact ⟨en1, v, hv, hD', hF', hg⟩
end Go.Proofs.YteokhhepnoelhaaGreatDoor
