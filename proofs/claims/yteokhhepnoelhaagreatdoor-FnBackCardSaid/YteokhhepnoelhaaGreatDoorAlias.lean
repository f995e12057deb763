/-
  bigall.same, bigall.alias: whether two rows of words lie in one block.
-/
import Derived.Test.YteokhhepnoelhaaGreatDoorNatSet
import Derived.Test.YteokhhepnoelhaaGreatDoorPtr
import Derived.Deep.QuietTactic
import Derived.BigQuiet
set_option linter.unusedVariables false
set_option linter.unusedSimpArgs false
namespace Go.Proofs.YteokhhepnoelhaaGreatDoor
open Go.RowKit

theorem run_eql_ptr_apart {P : Program} (w : World) {tp te : TypeId} {j : TypeInfo} {a b : Addr} {ca cb : Array Value} {ta tb : TypeId} (hp : P.underlying tp = some (.pointer te)) (hte : P.info? te = some j) (hsz : j.size ≠ 0)
    (hne : a ≠ b) (ha : w.heap[a.block]? = some (.cells ca ta (0, 0))) (hb : w.heap[b.block]? = some (.cells cb tb (0, 0))) :
    (binOp .eql tp (.pointer (some a)) (.pointer (some b))).run P w = .ok (.bool false) w := by
  have h : ∀ d : Nat, (Op.equalIn (d + 1) tp (.pointer (some a)) (.pointer (some b))).run P w = .ok false w := fun d => by
    simp [Op.equalIn, run_underlying hp, sizeOf, typeInfo, hte, hsz, run_sameAddr_other w hne ha hb]
  simp only [binOp]
  simp [Op.equal, Op.maxDepth, h 9999]
theorem info105z : ∃ j, Tryz.prog.info? 105 = some j ∧ j.size ≠ 0 := by
  obtain ⟨j, hj, hs⟩ := Option.map_eq_some_iff.1 Tryz.size105
  exact ⟨j, hj, by rw [hs]; decide⟩
theorem eql285_same (a : Addr) (w : World) : (binOp .eql 285 (.pointer (some a)) (.pointer (some a))).run Tryz.prog w = .ok (.bool true) w := by
  obtain ⟨j, hj, _⟩ := info105z
  exact run_eql_ptr_same w a Tryz.underlying285 hj
theorem eql285_apart {a b : Addr} {ca cb : Array Value} {ta tb : TypeId} (w : World) (hne : a ≠ b) (ha : w.heap[a.block]? = some (.cells ca ta (0, 0))) (hb : w.heap[b.block]? = some (.cells cb tb (0, 0))) :
    (binOp .eql 285 (.pointer (some a)) (.pointer (some b))).run Tryz.prog w = .ok (.bool false) w := by
  obtain ⟨j, hj, hz⟩ := info105z
  exact run_eql_ptr_apart w Tryz.underlying285 hj hz hne ha hb

def SaysB (w : World) (b : Bool) (e : Ending) (w' : World) : Prop := e = .returned (.bool b) ∧ Fr NoB w w'

set_option maxRecDepth 100000 in
set_option maxHeartbeats 1000000 in
theorem same_yes (g n cap : Nat) (hn : 1 ≤ n) (w : World) : Calls Tryz.prog 261 #[.slice (some ⟨g, 0, none⟩) n cap, .slice (some ⟨g, 0, none⟩) n cap] w (SaysB w true) := by
  have hq := fun w => eql285_same ⟨g, 0, none⟩ w
  have h1 : decide (0 < n) = true := decide_eq_true (by omega)
  have h2 : (0 : Int) < (n : Int) := by omega
  go_enter Tryz.func261, Tryz.ntmps261
  go_wp2_with fail
  go_quiet (fail)
  go_wp2_with fail
  go_ret
  exact ⟨rfl, (Fr.refl _ _).drewN _⟩

set_option maxRecDepth 100000 in
set_option maxHeartbeats 1000000 in
theorem alias_yes (g n cap m cap' : Nat) (hn : 1 ≤ cap) (hc : cap ≤ 1000000) (w : World) : Calls Tryz.prog 246 #[.slice (some ⟨g, 0, none⟩) n cap, .slice (some ⟨g, 0, none⟩) m cap] w (SaysB w true) := by
  have hq := fun w => eql285_same ⟨g, cap - 1, none⟩ w
  have h1 : decide (0 < cap) = true := decide_eq_true (by omega)
  have h2 : (0 : Int) < (cap : Int) := by omega
  have e1 : IntKind.i64.wrap ((cap : Int) - 1) = (cap : Int) - 1 := IntWalk.i64_in _ (by omega)
  have e2 : (0 : Int) ≤ (cap : Int) - 1 := by omega
  have e3 : ((cap : Int) - 1).toNat = cap - 1 := by omega
  have e4 : (cap : Int) - 1 < (cap : Int) := by omega
  go_enter Tryz.func246, Tryz.ntmps246
  go_wp2_with fail
  go_quiet (fail)
  go_wp2_with fail
  go_ret
  exact ⟨rfl, (Fr.refl _ _).drewN _⟩

set_option maxRecDepth 100000 in
set_option maxHeartbeats 1000000 in
theorem alias_no0 (A A' : Option Addr) (n m c' : Nat) (w : World) : Calls Tryz.prog 246 #[.slice A n 0, .slice A' m c'] w (SaysB w false) := by
  go_enter Tryz.func246, Tryz.ntmps246
  go_wp2_with fail
  go_quiet (fail)
  go_wp2_with fail
  go_ret
  exact ⟨rfl, (Fr.refl _ _).drewN _⟩
set_option maxRecDepth 100000 in
set_option maxHeartbeats 1000000 in
theorem alias_no1 (A A' : Option Addr) (n m c : Nat) (hc : 1 ≤ c) (w : World) : Calls Tryz.prog 246 #[.slice A n c, .slice A' m 0] w (SaysB w false) := by
  have h1 : decide (0 < c) = true := decide_eq_true (by omega)
  go_enter Tryz.func246, Tryz.ntmps246
  go_wp2_with fail
  go_quiet (fail)
  go_wp2_with fail
  go_ret
  exact ⟨rfl, (Fr.refl _ _).drewN _⟩
set_option maxRecDepth 100000 in
set_option maxHeartbeats 1000000 in
theorem alias_no2 (g g' n m c c' : Nat) (cs cs' : Array Value) (t t' : TypeId) (hg : g ≠ g') (hc : 1 ≤ c) (hc' : 1 ≤ c') (hl : c ≤ 1000000) (hl' : c' ≤ 1000000) (w : World) (h : w.heap[g]? = some (.cells cs t (0, 0))) (h' : w.heap[g']? = some (.cells cs' t' (0, 0))) :
    Calls Tryz.prog 246 #[.slice (some ⟨g, 0, none⟩) n c, .slice (some ⟨g', 0, none⟩) m c'] w (SaysB w false) := by
  have hq : ∀ k, (binOp .eql 285 (.pointer (some ⟨g, c - 1, none⟩)) (.pointer (some ⟨g', c' - 1, none⟩))).run Tryz.prog (w.drewN k) = .ok (.bool false) (w.drewN k) :=
    fun k => eql285_apart (w.drewN k) (fun e => hg (congrArg Addr.block e)) h h'
  have hq0 : (binOp .eql 285 (.pointer (some ⟨g, c - 1, none⟩)) (.pointer (some ⟨g', c' - 1, none⟩))).run Tryz.prog w = .ok (.bool false) w :=
    eql285_apart w (fun e => hg (congrArg Addr.block e)) h h'
  have h1 : decide (0 < c) = true := decide_eq_true (by omega)
  have h2 : (0 : Int) < (c : Int) := by omega
  have e1 : IntKind.i64.wrap ((c : Int) - 1) = (c : Int) - 1 := IntWalk.i64_in _ (by omega)
  have e2 : (0 : Int) ≤ (c : Int) - 1 := by omega
  have e3 : ((c : Int) - 1).toNat = c - 1 := by omega
  have e4 : (c : Int) - 1 < (c : Int) := by omega
  have h1' : decide (0 < c') = true := decide_eq_true (by omega)
  have h2' : (0 : Int) < (c' : Int) := by omega
  have e1' : IntKind.i64.wrap ((c' : Int) - 1) = (c' : Int) - 1 := IntWalk.i64_in _ (by omega)
  have e2' : (0 : Int) ≤ (c' : Int) - 1 := by omega
  have e3' : ((c' : Int) - 1).toNat = c' - 1 := by omega
  have e4' : (c' : Int) - 1 < (c' : Int) := by omega
  clear h h'
  go_enter Tryz.func246, Tryz.ntmps246
  go_wp2_with fail
  go_quiet (fail)
  go_wp2_with fail
  go_ret
  exact ⟨rfl, (Fr.refl _ _).drewN _⟩
theorem alias_no (v vx : Value) (zs xs : List Nat) (w : World) (hv : NatAt w v zs) (hx : NatAt w vx xs) (hne : ∀ g, natBlk v = some g → natBlk vx ≠ some g) : Calls Tryz.prog 246 #[v, vx] w (SaysB w false) := by
  rcases hv with ⟨rfl, rfl⟩ | ⟨g, cap, cs, rfl, hg, h1, h2, h3, h4⟩
  · obtain ⟨A, c, rfl⟩ := hx.shape
    exact alias_no0 _ _ _ _ _ w
  · by_cases hc : cap = 0
    · subst hc
      obtain ⟨A, c, rfl⟩ := hx.shape
      exact alias_no0 _ _ _ _ _ w
    · rcases hx with ⟨rfl, rfl⟩ | ⟨g', cap', cs', rfl, hg', h1', h2', h3', h4'⟩
      · exact alias_no1 _ _ _ _ _ (by omega) w
      · by_cases hc' : cap' = 0
        · subst hc'
          exact alias_no1 _ _ _ _ _ (by omega) w
        · exact alias_no2 g g' _ _ cap cap' cs cs' _ _ (fun e => hne g rfl (by rw [e]; rfl)) (by omega) (by omega) h3 h3' w hg hg'
end Go.Proofs.YteokhhepnoelhaaGreatDoor
