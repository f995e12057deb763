/-
  (*Decimal).setExponent where the exponent stays within the limits.
-/
import Derived.Test.YteokhhepnoelhaaGreatDoorXai
import Derived.Test.YteokhhepnoelhaaGreatDoorXag
set_option linter.unusedVariables false
set_option linter.unusedSimpArgs false
namespace Go.Proofs.YteokhhepnoelhaaGreatDoor
open Go.RowKit
structure CtxAt (w : World) (c : Nat) (prec maxE minE traps : Int) (r : ByteArray) : Prop where
 c0 : w.cell? ⟨c, 0, none⟩ = some (.int .u32 prec)
 c1 : w.cell? ⟨c, 1, none⟩ = some (.int .i32 maxE)
 c2 : w.cell? ⟨c, 2, none⟩ = some (.int .i32 minE)
 c3 : w.cell? ⟨c, 3, none⟩ = some (.int .u32 traps)
 c4 : w.cell? ⟨c, 4, none⟩ = some (.string r)
theorem CtxAt.fr {w w' : World} {S : Nat → Prop} {c : Nat} {prec maxE minE traps : Int} {r : ByteArray} (h : CtxAt w c prec maxE minE traps r) (hF : Fr S w w') (hS : ¬ S c) : CtxAt w' c prec maxE minE traps r :=
 ⟨hF.cell' h.c0 hS, hF.cell' h.c1 hS, hF.cell' h.c2 hS, hF.cell' h.c3 hS, hF.cell' h.c4 hS⟩
set_option maxRecDepth 100000 in
set_option maxHeartbeats 1000000 in
theorem setExponent_none_asked (D cb : Nat) (f : Int) (n : Bool) (e0 : Int) (cn : Bool) (Av : Value) (m : Bool) (nd res : Int) (X cap : Nat) (w : World) (hD : DecAt w D f n e0 cn Av m)
 (prec traps : Int) (r : ByteArray) (hC : CtxAt w cb prec 100000 (-100000) traps r) (hnd : 1 ≤ nd) (hnd' : nd ≤ 1000) (hs : -100000 ≤ nd - 1) (hs' : nd - 1 ≤ 100000) (hres : res = 0 ∨ res = 64 ∨ res = 80) (hN : Calls Tryz.prog 88 #[.pointer (some ⟨D, 0, none⟩)] w fun e w' => e = .returned (.int .i64 nd) ∧ Fr NoB w w') :
 Calls Tryz.prog 60 #[.pointer (some ⟨D, 0, none⟩), .pointer (some ⟨cb, 0, none⟩), .int .i64 (-1), .int .u32 res, .slice (some ⟨X, 0, none⟩) 0 cap] w
  fun e w' => e = .returned (.int .u32 res) ∧ ∃ w1, Fr NoB w w1 ∧ w' = w1.setCell ⟨D, 2, none⟩ (.int .i32 (0)) := by
 obtain ⟨⟨h0, h1, h2, h3, h4, h5⟩, f0, f1, f2, f3, f4, f5⟩ := hD.cells;have HC := hid hC;obtain ⟨c0, c1, c2, c3, c4⟩ := hC;have HN := hid hN;clear hN hD h0 h1 h3 h4 h5 f0 f1 f3 f4 f5;rcases hres with rfl | rfl | rfl;all_goals
  go_enter Tryz.func60, Tryz.ntmps60;go_wp2_with fail;refine wp_loop_rounds 3 ?_;repeat any_goals (rw [rounds_succ]; go_wp2_with fail)
  refine HN.out.mono ?_;rintro e w1 ⟨rfl, hF⟩;have k2 := hF.cell' h2 (fun h => h); have g2 := hF.frozen' h2 f2 (fun h => h);obtain ⟨d0, d1, d2, d3, d4⟩ := HC.out.fr hF (fun h => h);have HF := hid hF; clear hF;clear h2 f2 c0 c1 c2 c3 c4;go_wp2
  go_ret;exact ⟨rfl, w1, HF.out, rfl⟩
set_option maxRecDepth 100000 in
set_option maxHeartbeats 1000000 in
theorem setExponent_one_asked (D cb : Nat) (f : Int) (n : Bool) (e0 : Int) (cn : Bool) (Av : Value) (m : Bool) (nd res a : Int) (X cap : Nat) (w : World) (hD : DecAt w D f n e0 cn Av m)
 (prec traps : Int) (r : ByteArray) (hC : CtxAt w cb prec 100000 (-100000) traps r) (hX : w.cell? ⟨X, 0, none⟩ = some (.int .i64 a)) (halo : -100000 ≤ a) (hahi : a ≤ 100000) (hnd : 1 ≤ nd) (hnd' : nd ≤ 1000) (hs : -100000 ≤ a + nd - 1) (hs' : a + nd - 1 ≤ 100000) (hres : res = 0 ∨ res = 64 ∨ res = 80) (hN : Calls Tryz.prog 88 #[.pointer (some ⟨D, 0, none⟩)] w fun e w' => e = .returned (.int .i64 nd) ∧ Fr NoB w w') :
 Calls Tryz.prog 60 #[.pointer (some ⟨D, 0, none⟩), .pointer (some ⟨cb, 0, none⟩), .int .i64 (-1), .int .u32 res, .slice (some ⟨X, 0, none⟩) 1 cap] w
  fun e w' => e = .returned (.int .u32 res) ∧ ∃ w1, Fr NoB w w1 ∧ w' = w1.setCell ⟨D, 2, none⟩ (.int .i32 (a)) := by
 obtain ⟨⟨h0, h1, h2, h3, h4, h5⟩, f0, f1, f2, f3, f4, f5⟩ := hD.cells;have HC := hid hC;obtain ⟨c0, c1, c2, c3, c4⟩ := hC;have HN := hid hN;clear hN hD h0 h1 h3 h4 h5 f0 f1 f3 f4 f5;rcases hres with rfl | rfl | rfl;all_goals
  go_enter Tryz.func60, Tryz.ntmps60;go_wp2_with fail;refine wp_loop_rounds 3 ?_;repeat any_goals (rw [rounds_succ]; go_wp2_with fail)
  refine HN.out.mono ?_;rintro e w1 ⟨rfl, hF⟩;have k2 := hF.cell' h2 (fun h => h); have g2 := hF.frozen' h2 f2 (fun h => h);obtain ⟨d0, d1, d2, d3, d4⟩ := HC.out.fr hF (fun h => h);have HF := hid hF; clear hF;clear h2 f2 c0 c1 c2 c3 c4;go_wp2
  go_ret;exact ⟨rfl, w1, HF.out, rfl⟩
set_option maxRecDepth 100000 in
set_option maxHeartbeats 1000000 in
theorem setExponent_two_given (D cb : Nat) (f : Int) (n : Bool) (e0 : Int) (cn : Bool) (Av : Value) (m : Bool) (nd res a b : Int) (X cap : Nat) (w : World) (hD : DecAt w D f n e0 cn Av m)
 (prec traps : Int) (r : ByteArray) (hC : CtxAt w cb prec 100000 (-100000) traps r) (hX : w.cell? ⟨X, 0, none⟩ = some (.int .i64 a)) (hX1 : w.cell? ⟨X, 1, none⟩ = some (.int .i64 b)) (halo : -100000 ≤ a) (hahi : a ≤ 100000) (hblo : -100000 ≤ b) (hbhi : b ≤ 100000) (hablo : -2147483648 ≤ a + b) (habhi : a + b ≤ 2147483647) (hnd : 1 ≤ nd) (hnd' : nd ≤ 1000) (hs : -100000 ≤ a + b + nd - 1) (hs' : a + b + nd - 1 ≤ 100000) (hres : res = 0 ∨ res = 64 ∨ res = 80) :
 Calls Tryz.prog 60 #[.pointer (some ⟨D, 0, none⟩), .pointer (some ⟨cb, 0, none⟩), .int .i64 nd, .int .u32 res, .slice (some ⟨X, 0, none⟩) 2 cap] w
  fun e w' => e = .returned (.int .u32 res) ∧ w' = w.setCell ⟨D, 2, none⟩ (.int .i32 (a + b)) := by
 obtain ⟨⟨h0, h1, h2, h3, h4, h5⟩, f0, f1, f2, f3, f4, f5⟩ := hD.cells;have HC := hid hC;obtain ⟨c0, c1, c2, c3, c4⟩ := hC;have hnd1 : (nd == -1) = false := by simp; omega
 clear hD h0 h1 h3 h4 h5 f0 f1 f3 f4 f5;rcases hres with rfl | rfl | rfl;all_goals
  go_enter Tryz.func60, Tryz.ntmps60;go_wp2
  go_rounds 3
  go_ret;exact ⟨rfl, rfl⟩
set_option maxRecDepth 100000 in
set_option maxHeartbeats 1000000 in
theorem setExponent_two_asked (D cb : Nat) (f : Int) (n : Bool) (e0 : Int) (cn : Bool) (Av : Value) (m : Bool) (nd res a b : Int) (X cap : Nat) (w : World) (hD : DecAt w D f n e0 cn Av m)
 (prec traps : Int) (r : ByteArray) (hC : CtxAt w cb prec 100000 (-100000) traps r) (hX : w.cell? ⟨X, 0, none⟩ = some (.int .i64 a)) (hX1 : w.cell? ⟨X, 1, none⟩ = some (.int .i64 b)) (halo : -100000 ≤ a) (hahi : a ≤ 100000) (hblo : -100000 ≤ b) (hbhi : b ≤ 100000) (hablo : -2147483648 ≤ a + b) (habhi : a + b ≤ 2147483647) (hnd : 1 ≤ nd) (hnd' : nd ≤ 1000) (hs : -100000 ≤ a + b + nd - 1) (hs' : a + b + nd - 1 ≤ 100000) (hres : res = 0 ∨ res = 64 ∨ res = 80) (hN : Calls Tryz.prog 88 #[.pointer (some ⟨D, 0, none⟩)] w fun e w' => e = .returned (.int .i64 nd) ∧ Fr NoB w w') :
 Calls Tryz.prog 60 #[.pointer (some ⟨D, 0, none⟩), .pointer (some ⟨cb, 0, none⟩), .int .i64 (-1), .int .u32 res, .slice (some ⟨X, 0, none⟩) 2 cap] w
  fun e w' => e = .returned (.int .u32 res) ∧ ∃ w1, Fr NoB w w1 ∧ w' = w1.setCell ⟨D, 2, none⟩ (.int .i32 (a + b)) := by
 obtain ⟨⟨h0, h1, h2, h3, h4, h5⟩, f0, f1, f2, f3, f4, f5⟩ := hD.cells;have HC := hid hC;obtain ⟨c0, c1, c2, c3, c4⟩ := hC;have HN := hid hN;clear hN hD h0 h1 h3 h4 h5 f0 f1 f3 f4 f5;rcases hres with rfl | rfl | rfl;all_goals
  go_enter Tryz.func60, Tryz.ntmps60;go_wp2_with fail;refine wp_loop_rounds 3 ?_;repeat any_goals (rw [rounds_succ]; go_wp2_with fail)
  refine HN.out.mono ?_;rintro e w1 ⟨rfl, hF⟩;have k2 := hF.cell' h2 (fun h => h); have g2 := hF.frozen' h2 f2 (fun h => h);obtain ⟨d0, d1, d2, d3, d4⟩ := HC.out.fr hF (fun h => h);have HF := hid hF; clear hF;clear h2 f2 c0 c1 c2 c3 c4;go_wp2
  go_ret;exact ⟨rfl, w1, HF.out, rfl⟩
def bigSign (cn : Bool) (k : Nat) (m : Bool) : Int := if m then -1 else if k = 0 then 0 else if cn then -1 else 1
def decSign (f : Int) (n cn : Bool) (k : Nat) (m : Bool) : Int := if f = 0 ∧ bigSign cn k m = 0 then 0 else if n then -1 else 1
theorem bigSign_any (D o : Nat) (cn : Bool) (A : Option Addr) (k kc : Nat) (m : Bool) (w : World) (h3 : w.cell? ⟨D, o, none⟩ = some (.bool cn)) (h4 : w.cell? ⟨D, o + 1, none⟩ = some (.slice A k kc)) (h5 : w.cell? ⟨D, o + 2, none⟩ = some (.bool m)) :
 Calls Tryz.prog 103 #[.pointer (some ⟨D, o, none⟩)] w fun e w' => e = .returned (.int .i64 (bigSign cn k m)) ∧ w = w' := by
 cases m with
 | true =>
  go_enter Tryz.func103, Tryz.ntmps103;go_wp2
  go_ret;exact ⟨rfl, rfl⟩
 | false =>
  by_cases hk : k = 0
  · subst hk;go_enter Tryz.func103, Tryz.ntmps103;go_wp2
    go_ret;exact ⟨rfl, rfl⟩
  · have hk0 : ((k : Int) == 0) = false := by simp; omega
    have hk' : bigSign cn k false = if cn then -1 else 1 := by simp [bigSign, hk]
    have HK := hid hk';clear hk';cases cn with
    | true =>
     go_enter Tryz.func103, Tryz.ntmps103;go_wp2
     go_ret;exact ⟨by rw [HK.out]; rfl, rfl⟩
    | false =>
     go_enter Tryz.func103, Tryz.ntmps103;go_wp2
     go_ret;exact ⟨by rw [HK.out]; rfl, rfl⟩
theorem decSign_any (D : Nat) (f : Int) (n : Bool) (e0 : Int) (cn : Bool) (A : Option Addr) (k kc : Nat) (m : Bool) (w : World) (hD : DecAt w D f n e0 cn (.slice A k kc) m) :
 Calls Tryz.prog 100 #[.pointer (some ⟨D, 0, none⟩)] w fun e w' => e = .returned (.int .i64 (decSign f n cn k m)) ∧ w = w' := by
 obtain ⟨⟨h0, h1, h2, h3, h4, h5⟩, f0, f1, f2, f3, f4, f5⟩ := hD.cells;have HS := hid (bigSign_any D 3 cn A k kc m w h3 h4 h5);clear hD h2 h3 h4 h5 f0 f1 f2 f3 f4 f5;by_cases hf : f = 0
 · subst hf;by_cases hb : bigSign cn k m = 0
   · have hd : decSign 0 n cn k m = 0 := by simp [decSign, hb]
     have H := hid hd;clear hd;rw [hb] at HS;clear hb;go_enter Tryz.func100, Tryz.ntmps100;go_wp2_with (go_at_call 103; refine HS.out.mono ?_; rintro e w1 ⟨rfl, rfl⟩);go_ret;exact ⟨by rw [H.out]; rfl, rfl⟩
   · have hd : decSign 0 n cn k m = if n then -1 else 1 := by simp [decSign, hb]
     have H := hid hd;clear hd;have hb0 : (bigSign cn k m == 0) = false := by simpa using hb
     generalize bigSign cn k m = s at *
     cases n with
     | true =>
      go_enter Tryz.func100, Tryz.ntmps100;go_wp2_with (go_at_call 103; refine HS.out.mono ?_; rintro e w1 ⟨rfl, rfl⟩);go_ret;exact ⟨by rw [H.out]; rfl, rfl⟩
     | false =>
      go_enter Tryz.func100, Tryz.ntmps100;go_wp2_with (go_at_call 103; refine HS.out.mono ?_; rintro e w1 ⟨rfl, rfl⟩);go_ret;exact ⟨by rw [H.out]; rfl, rfl⟩
 · have hd : decSign f n cn k m = if n then -1 else 1 := by simp [decSign, hf]
   have H := hid hd;clear hd;have hf0 : (f == 0) = false := by simpa using hf
   cases n with
   | true =>
    go_enter Tryz.func100, Tryz.ntmps100;go_wp2_with fail;go_ret;exact ⟨by rw [H.out]; rfl, rfl⟩
   | false =>
    go_enter Tryz.func100, Tryz.ntmps100;go_wp2_with fail;go_ret;exact ⟨by rw [H.out]; rfl, rfl⟩
end Go.Proofs.YteokhhepnoelhaaGreatDoor
