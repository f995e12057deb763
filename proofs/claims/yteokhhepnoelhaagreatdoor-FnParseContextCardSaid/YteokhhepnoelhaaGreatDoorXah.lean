/-
  bigall.same, bigall.alias: whether two rows of words lie in one block.
-/
import Derived.Test.YteokhhepnoelhaaGreatDoorXaf
import Derived.Test.YteokhhepnoelhaaGreatDoorXag
import Derived.Deep.QuietTactic
import Derived.BigQuiet
import Derived.Test.YteokhhepnoelhaaGreatDoorXad
import Derived.Lib.SliceRun
import Derived.BigFrame
import Derived.Deep.RegionWith
set_option linter.unusedVariables false
set_option linter.unusedSimpArgs false
namespace Go.Proofs.YteokhhepnoelhaaGreatDoor
open Go.RowKit
theorem run_eql_ptr_apart {P : Program} (w : World) {tp te : TypeId} {j : TypeInfo} {a b : Addr} {ca cb : Array Value} {ta tb : TypeId} (hp : P.underlying tp = some (.pointer te)) (hte : P.info? te = some j) (hsz : j.size ≠ 0)
 (hne : a ≠ b) (ha : w.heap[a.block]? = some (.cells ca ta (0, 0))) (hb : w.heap[b.block]? = some (.cells cb tb (0, 0))) :
 (binOp .eql tp (.pointer (some a)) (.pointer (some b))).run P w = .ok (.bool false) w := by
 have h : ∀ d : Nat, (Op.equalIn (d + 1) tp (.pointer (some a)) (.pointer (some b))).run P w = .ok false w := fun d => by
  simp [Op.equalIn, run_underlying hp, sizeOf, typeInfo, hte, hsz, run_sameAddr_other w hne ha hb]
 simp only [binOp];simp [Op.equal, Op.maxDepth, h 9999]
theorem info105z : ∃ j, Tryz.prog.info? 105 = some j ∧ j.size ≠ 0 := by
 obtain ⟨j, hj, hs⟩ := Option.map_eq_some_iff.1 Tryz.size105;exact ⟨j, hj, by rw [hs]; decide⟩
theorem eql285_same (a : Addr) (w : World) : (binOp .eql 285 (.pointer (some a)) (.pointer (some a))).run Tryz.prog w = .ok (.bool true) w := by
 obtain ⟨j, hj, _⟩ := info105z;exact run_eql_ptr_same w a Tryz.underlying285 hj
theorem eql285_apart {a b : Addr} {ca cb : Array Value} {ta tb : TypeId} (w : World) (hne : a ≠ b) (ha : w.heap[a.block]? = some (.cells ca ta (0, 0))) (hb : w.heap[b.block]? = some (.cells cb tb (0, 0))) :
 (binOp .eql 285 (.pointer (some a)) (.pointer (some b))).run Tryz.prog w = .ok (.bool false) w := by
 obtain ⟨j, hj, hz⟩ := info105z;exact run_eql_ptr_apart w Tryz.underlying285 hj hz hne ha hb
def SaysB (w : World) (b : Bool) (e : Ending) (w' : World) : Prop := e = .returned (.bool b) ∧ Fr NoB w w'
set_option maxRecDepth 100000 in
set_option maxHeartbeats 1000000 in
theorem same_yes (g n cap : Nat) (hn : 1 ≤ n) (w : World) : Calls Tryz.prog 261 #[.slice (some ⟨g, 0, none⟩) n cap, .slice (some ⟨g, 0, none⟩) n cap] w (SaysB w true) := by
 have hq := fun w => eql285_same ⟨g, 0, none⟩ w
 have h1 : decide (0 < n) = true := decide_eq_true (by omega);have h2 : (0 : Int) < (n : Int) := by omega
 go_enter Tryz.func261, Tryz.ntmps261;go_wp2_with fail;go_quiet (fail);go_wp2_with fail;go_ret;exact ⟨rfl, (Fr.refl _ _).drewN _⟩
set_option maxRecDepth 100000 in
set_option maxHeartbeats 1000000 in
theorem alias_yes (g n cap m cap' : Nat) (hn : 1 ≤ cap) (hc : cap ≤ 1000000) (w : World) : Calls Tryz.prog 246 #[.slice (some ⟨g, 0, none⟩) n cap, .slice (some ⟨g, 0, none⟩) m cap] w (SaysB w true) := by
 have hq := fun w => eql285_same ⟨g, cap - 1, none⟩ w
 have h1 : decide (0 < cap) = true := decide_eq_true (by omega);have h2 : (0 : Int) < (cap : Int) := by omega
 have e1 : IntKind.i64.wrap ((cap : Int) - 1) = (cap : Int) - 1 := IntWalk.i64_in _ (by omega);have e2 : (0 : Int) ≤ (cap : Int) - 1 := by omega
 have e3 : ((cap : Int) - 1).toNat = cap - 1 := by omega
 have e4 : (cap : Int) - 1 < (cap : Int) := by omega
 go_enter Tryz.func246, Tryz.ntmps246;go_wp2_with fail;go_quiet (fail);go_wp2_with fail;go_ret;exact ⟨rfl, (Fr.refl _ _).drewN _⟩
set_option maxRecDepth 100000 in
set_option maxHeartbeats 1000000 in
theorem alias_no0 (A A' : Option Addr) (n m c' : Nat) (w : World) : Calls Tryz.prog 246 #[.slice A n 0, .slice A' m c'] w (SaysB w false) := by
 go_enter Tryz.func246, Tryz.ntmps246;go_wp2_with fail;go_quiet (fail);go_wp2_with fail;go_ret;exact ⟨rfl, (Fr.refl _ _).drewN _⟩
set_option maxRecDepth 100000 in
set_option maxHeartbeats 1000000 in
theorem alias_no1 (A A' : Option Addr) (n m c : Nat) (hc : 1 ≤ c) (w : World) : Calls Tryz.prog 246 #[.slice A n c, .slice A' m 0] w (SaysB w false) := by
 have h1 : decide (0 < c) = true := decide_eq_true (by omega);go_enter Tryz.func246, Tryz.ntmps246;go_wp2_with fail;go_quiet (fail);go_wp2_with fail;go_ret;exact ⟨rfl, (Fr.refl _ _).drewN _⟩
set_option maxRecDepth 100000 in
set_option maxHeartbeats 1000000 in
theorem alias_no2 (g g' n m c c' : Nat) (cs cs' : Array Value) (t t' : TypeId) (hg : g ≠ g') (hc : 1 ≤ c) (hc' : 1 ≤ c') (hl : c ≤ 1000000) (hl' : c' ≤ 1000000) (w : World) (h : w.heap[g]? = some (.cells cs t (0, 0))) (h' : w.heap[g']? = some (.cells cs' t' (0, 0))) :
 Calls Tryz.prog 246 #[.slice (some ⟨g, 0, none⟩) n c, .slice (some ⟨g', 0, none⟩) m c'] w (SaysB w false) := by
 have hq : ∀ k, (binOp .eql 285 (.pointer (some ⟨g, c - 1, none⟩)) (.pointer (some ⟨g', c' - 1, none⟩))).run Tryz.prog (w.drewN k) = .ok (.bool false) (w.drewN k) :=
  fun k => eql285_apart (w.drewN k) (fun e => hg (congrArg Addr.block e)) h h'
 have hq0 : (binOp .eql 285 (.pointer (some ⟨g, c - 1, none⟩)) (.pointer (some ⟨g', c' - 1, none⟩))).run Tryz.prog w = .ok (.bool false) w :=
  eql285_apart w (fun e => hg (congrArg Addr.block e)) h h'
 have h1 : decide (0 < c) = true := decide_eq_true (by omega);have h2 : (0 : Int) < (c : Int) := by omega
 have e1 : IntKind.i64.wrap ((c : Int) - 1) = (c : Int) - 1 := IntWalk.i64_in _ (by omega);have e2 : (0 : Int) ≤ (c : Int) - 1 := by omega
 have e3 : ((c : Int) - 1).toNat = c - 1 := by omega
 have e4 : (c : Int) - 1 < (c : Int) := by omega
 have h1' : decide (0 < c') = true := decide_eq_true (by omega);have h2' : (0 : Int) < (c' : Int) := by omega
 have e1' : IntKind.i64.wrap ((c' : Int) - 1) = (c' : Int) - 1 := IntWalk.i64_in _ (by omega);have e2' : (0 : Int) ≤ (c' : Int) - 1 := by omega
 have e3' : ((c' : Int) - 1).toNat = c' - 1 := by omega
 have e4' : (c' : Int) - 1 < (c' : Int) := by omega
 clear h h';go_enter Tryz.func246, Tryz.ntmps246;go_wp2_with fail;go_quiet (fail);go_wp2_with fail;go_ret;exact ⟨rfl, (Fr.refl _ _).drewN _⟩
theorem alias_no (v vx : Value) (zs xs : List Nat) (w : World) (hv : NatAt w v zs) (hx : NatAt w vx xs) (hne : ∀ g, natBlk v = some g → natBlk vx ≠ some g) : Calls Tryz.prog 246 #[v, vx] w (SaysB w false) := by
 rcases hv with ⟨rfl, rfl⟩ | ⟨g, cap, cs, rfl, hg, h1, h2, h3, h4⟩
 · obtain ⟨A, c, rfl⟩ := hx.shape;exact alias_no0 _ _ _ _ _ w
 · by_cases hc : cap = 0
   · subst hc;obtain ⟨A, c, rfl⟩ := hx.shape;exact alias_no0 _ _ _ _ _ w
   · rcases hx with ⟨rfl, rfl⟩ | ⟨g', cap', cs', rfl, hg', h1', h2', h3', h4'⟩
     · exact alias_no1 _ _ _ _ _ (by omega) w
     · by_cases hc' : cap' = 0
       · subst hc';exact alias_no1 _ _ _ _ _ (by omega) w
       · exact alias_no2 g g' _ _ cap cap' cs cs' _ _ (fun e => hne g rfl (by rw [e]; rfl)) (by omega) (by omega) h3 h3' w hg hg'
end Go.Proofs.YteokhhepnoelhaaGreatDoor
namespace Go.Proofs.YteokhhepnoelhaaGreatDoor
def amZ : List Nat → List Nat → Nat → Nat → List Nat
 | x :: xs, y :: ys, m, c => (y * m + x + c) % WB :: amZ xs ys m ((y * m + x + c) / WB)
 | _, _, _, _ => []
def amC : List Nat → List Nat → Nat → Nat → Nat
 | x :: xs, y :: ys, m, c => amC xs ys m ((y * m + x + c) / WB)
 | _, _, _, c => c
theorem amZ_length (xs : List Nat) : ∀ (ys : List Nat) (m c : Nat), xs.length = ys.length → (amZ xs ys m c).length = xs.length := by
 induction xs with
 | nil => intro ys m c h; cases ys <;> rfl
 | cons x xs ih =>
  intro ys m c h;cases ys with
  | nil => simp at h
  | cons y ys => simp [amZ, ih ys m _ (by simpa using h)]
theorem am_snoc (xs : List Nat) (x y m : Nat) : ∀ (ys : List Nat) (c : Nat), xs.length = ys.length →
 amZ (xs ++ [x]) (ys ++ [y]) m c = amZ xs ys m c ++ [(y * m + x + amC xs ys m c) % WB] ∧ amC (xs ++ [x]) (ys ++ [y]) m c = (y * m + x + amC xs ys m c) / WB := by
 induction xs with
 | nil =>
  intro ys c h;cases ys with
  | nil => exact ⟨rfl, rfl⟩
  | cons y ys => simp at h
 | cons u xs ih =>
  intro ys c h;cases ys with
  | nil => simp at h
  | cons v ys =>
   obtain ⟨a, b⟩ := ih ys ((v * m + u + c) / WB) (by simpa using h);simp [amZ, amC, a, b]
theorem am_carry {x y m c : Nat} (hx : x < WB) (hy : y < WB) (hm : m < WB) (hc : c < WB) : (y * m + x + c) / WB < WB := by
 rw [Nat.div_lt_iff_lt_mul WB_pos];have h1 : y * m ≤ (WB - 1) * (WB - 1) := Nat.mul_le_mul (by omega) (by omega);have h2 : WB * WB = (WB - 1) * (WB - 1) + 2 * WB - 1 := by decide
 omega
theorem amC_lt (xs : List Nat) (m : Nat) (hm : m < WB) : ∀ (ys : List Nat) (c : Nat), c < WB → (∀ x ∈ xs, x < WB) → (∀ y ∈ ys, y < WB) → amC xs ys m c < WB := by
 induction xs with
 | nil => intro ys c hc _ _; cases ys <;> exact hc
 | cons x xs ih =>
  intro ys c hc hx hy;cases ys with
  | nil => exact hc
  | cons y ys =>
   exact ih ys _ (am_carry (hx x (by simp)) (hy y (by simp)) hm hc) (fun u hu => hx u (by simp [hu])) (fun u hu => hy u (by simp [hu]))
theorem amZ_lt (xs : List Nat) (m : Nat) : ∀ (ys : List Nat) (c : Nat), ∀ u ∈ amZ xs ys m c, u < WB := by
 induction xs with
 | nil => intro ys c u hu; cases ys <;> simp [amZ] at hu
 | cons x xs ih =>
  intro ys c u hu;cases ys with
  | nil => simp [amZ] at hu
  | cons y ys =>
   rcases List.mem_cons.1 hu with rfl | hu;· exact Nat.mod_lt _ WB_pos
   · exact ih _ _ u hu
theorem nval_append (xs ys : List Nat) : nval (xs ++ ys) = nval xs + WB ^ xs.length * nval ys := by
 induction xs with
 | nil => simp [nval]
 | cons x xs ih => rw [List.cons_append, nval, nval, ih, List.length_cons, Nat.pow_succ, Nat.mul_add, ← Nat.mul_assoc, Nat.mul_comm WB (WB ^ _), Nat.add_assoc]
theorem nval_am (xs : List Nat) (m : Nat) : ∀ (ys : List Nat) (c : Nat), xs.length = ys.length → nval (amZ xs ys m c ++ [amC xs ys m c]) = nval xs + nval ys * m + c := by
 induction xs with
 | nil =>
  intro ys c h;cases ys with
  | nil => simp [amZ, amC, nval]
  | cons y ys => simp at h
 | cons x xs ih =>
  intro ys c h;cases ys with
  | nil => simp at h
  | cons y ys =>
   rw [amZ, amC, List.cons_append, nval, ih ys _ (by simpa using h), nval, nval];have := Nat.div_add_mod (y * m + x + c) WB;generalize (y * m + x + c) / WB = q at *
   generalize (y * m + x + c) % WB = r at *
   rw [Nat.mul_add, Nat.mul_add, Nat.add_mul, Nat.mul_assoc];omega
theorem nval_zeros (n : Nat) : nval (List.replicate n 0) = 0 := by
 induction n with
 | zero => rfl
 | succ n ih => rw [List.replicate_succ, nval, ih, Nat.mul_zero]
theorem amStep (x y m c : Nat) (hx : x < WB) (hy : y < WB) (hm : m < WB) (hc : c < WB) :
 ((y * m + x) % WB + c + 0) / WB + (y * m + x) / WB = (y * m + x + c) / WB ∧ ((y * m + x) % WB + c + 0) % WB = (y * m + x + c) % WB ∧ (y * m + x + c) / WB < WB := by
 have e : y * m + x = WB * ((y * m + x) / WB) + (y * m + x) % WB := (Nat.div_add_mod _ _).symm;refine ⟨?_, ?_, am_carry hx hy hm hc⟩
 · generalize y * m + x = s at *
   generalize s / WB = q at *
   generalize s % WB = r at *
   rw [e, Nat.add_zero, Nat.add_assoc, Nat.mul_add_div WB_pos, Nat.add_comm]
 · generalize y * m + x = s at *
   generalize s / WB = q at *
   generalize s % WB = r at *
   rw [e, Nat.add_zero, Nat.add_assoc, Nat.mul_add_mod]
theorem nval_take_succ (ys : List Nat) (k y : Nat) (h : ys[k]? = some y) : nval (ys.take (k + 1)) = nval (ys.take k) + WB ^ k * y := by
 have hk := (List.getElem?_eq_some_iff.1 h).1;rw [List.take_add_one, h, nval_append, List.length_take, Nat.min_eq_left (by omega)];simp [nval]
theorem row_step {k n : Nat} {lo mid ys : List Nat} {X Y y : Nat} (hlo : lo.length = k) (hmid : mid.length = n) (hys : ys.length = n) (hX : nval ys = X)
 (hv : nval (lo ++ mid) = X * Y) : nval (lo ++ (amZ mid ys y 0 ++ [amC mid ys y 0])) = X * (Y + WB ^ k * y) := by
 rw [nval_append] at hv ⊢;rw [nval_am _ _ _ _ (by omega), hX, Nat.add_zero, hlo, Nat.mul_add, ← Nat.add_assoc];rw [hlo] at hv;rw [hv, Nat.mul_add, Nat.mul_left_comm]
end Go.Proofs.YteokhhepnoelhaaGreatDoor
namespace Go.Proofs.YteokhhepnoelhaaGreatDoor
open Go.RowKit
theorem and63 (n : Nat) (h : n ≤ 63) : bits .and .u64 (n : Int) 63 = (n : Int) := by
 have := u64_and_nat n 63 (by omega) (by omega);rw [show ((63 : Nat) : Int) = 63 from rfl] at this;rw [this, show (63 : Nat) = 2 ^ 6 - 1 from rfl, Nat.and_two_pow_sub_one_eq_mod];omega
set_option maxRecDepth 100000 in
set_option maxHeartbeats 1000000 in
theorem lshVU_g_one (gz oz cz gx cx s x : Nat) (w : World) (csz : Array Value) (hz : w.heap[gz]? = some (.cells csz 105 (0, 0))) (v0 : Value) (hzn : csz[oz]? = some v0) (hx : w.cell? ⟨gx, 0, none⟩ = some (.int .u64 (x : Int))) (hs : 1 ≤ s) (hs' : s ≤ 63) (hxb : x < 18446744073709551616) :
 Calls Tryz.prog 279 #[.slice (some ⟨gz, oz, none⟩) 1 cz, .slice (some ⟨gx, 0, none⟩) 1 cx, .int .u64 (s : Int)] w
  fun e w' => e = .returned (.int .u64 ((x / 2 ^ (64 - s) : Nat) : Int)) ∧ w' = w.setCell ⟨gz, oz, none⟩ (.int .u64 ((x * 2 ^ s % 18446744073709551616 : Nat) : Int)) := by
 have e1 : bits .and .u64 (s : Int) 63 = (s : Int) := and63 s hs';have e2 : bits .and .u64 (64 - (s : Int)) 63 = (64 - (s : Int)) := by
  have := and63 (64 - s) (by omega);rw [show ((64 - s : Nat) : Int) = 64 - (s : Int) by omega] at this;exact this
 have s0 : ((s : Int) == 0) = false := beq_eq_false_iff_ne.2 (by omega);have k0 : w.cell? ⟨gz, oz, none⟩ = some v0 := by rw [blk_cell hz]; exact hzn
 have f0 : w.frozen? ⟨gz, oz, none⟩ = false := blk_frozen hz oz;go_enter Tryz.func279, Tryz.ntmps279;go_wp2_with fail;go_rounds 1
 go_ret;refine ⟨rfl, ?_⟩;rw [u64_wrap, show ((x * 2 ^ s % 18446744073709551616 : Nat) : Int) = ((x : Int) * 2 ^ s) % 18446744073709551616 by simp]
theorem lshVU_one (gz oz cz gx cx s x : Nat) (w : World) (csz : Array Value) (hz : w.heap[gz]? = some (.cells csz 105 (0, 0))) (v0 : Value) (hzn : csz[oz]? = some v0) (hx : w.cell? ⟨gx, 0, none⟩ = some (.int .u64 (x : Int))) (hs : 1 ≤ s) (hs' : s ≤ 63) (hxb : x < 18446744073709551616) :
 Calls Tryz.prog 245 #[.slice (some ⟨gz, oz, none⟩) 1 cz, .slice (some ⟨gx, 0, none⟩) 1 cx, .int .u64 (s : Int)] w
  fun e w' => e = .returned (.int .u64 ((x / 2 ^ (64 - s) : Nat) : Int)) ∧ w' = w.setCell ⟨gz, oz, none⟩ (.int .u64 ((x * 2 ^ s % 18446744073709551616 : Nat) : Int)) := by
 have H := hid (lshVU_g_one gz oz cz gx cx s x w csz hz v0 hzn hx hs hs' hxb);clear hz hzn hx hxb;generalize x / 2 ^ (64 - s) = a at *
 generalize x * 2 ^ s % 18446744073709551616 = b at *
 go_enter Tryz.func245, Tryz.ntmps245;go_wp2_with fail;refine H.out.mono ?_;rintro e w1 ⟨rfl, rfl⟩;go_wp2_with fail;go_ret;exact ⟨rfl, rfl⟩
theorem setCells_blk (g : Nat) (t : TypeId) : ∀ (vs : List Value) (o : Nat) (cs : Array Value) (w : World), w.heap[g]? = some (.cells cs t (0, 0)) → (w.setCells g o vs).heap[g]? = some (.cells (putV cs o vs) t (0, 0))
 | [], _, _, _, h => h
 | v :: vs, o, cs, w, h => setCells_blk g t vs (o + 1) _ _ (blk_set h o v)
theorem Fr.setCells {S : Nat → Prop} {a : World} (g : Nat) : ∀ (vs : List Value) (o : Nat) (w : World), Fr S a w → (g < a.heap.size → S g) → Fr S a (w.setCells g o vs)
 | [], _, _, h, _ => h
 | v :: vs, o, w, h, hp => Fr.setCells g vs (o + 1) _ (h.setCell (p := ⟨g, o, none⟩) hp v) hp
theorem zero105 (w : World) : (zeroValue 105).run Tryz.prog w = .ok (.int .u64 0) w := by kernel_rfl
def zeros (n : Nat) : List Value := List.replicate n (.int .u64 0)
theorem run_clear66 (g n c : Nat) (cs : Array Value) (ty : TypeId) (w : World) (hg : w.heap[g]? = some (.cells cs 105 (0, 0))) (hn : n ≤ cs.size) :
 (Builtin.clear_ #[66] ty #[.slice (some ⟨g, 0, none⟩) n c]).run Tryz.prog w = .ok (.tuple #[]) (w.setCells g 0 (zeros n)) := by
 by_cases h : n = 0;· subst h;simp [Builtin.clear_, run_underlying Tryz.underlying66, zeros, World.setCells]
 · exact Lib.run_clear_slice w 66 105 ty (.int .u64 0) Tryz.underlying66 zero105 rfl rfl g 0 n c (by omega)
    (fun j hj => by rw [blk_cell hg, Nat.zero_add, Array.getElem?_eq_getElem (by omega)]; rfl) (fun j hj => blk_frozen hg _)
theorem nval_pow (k t : Nat) : nval (List.replicate k 0 ++ [2 ^ t, 0]) = 2 ^ (64 * k + t) := by
 rw [nval_append, nval_zeros, List.length_replicate];simp [nval];rw [WB_eq, show (18446744073709551616 : Nat) = 2 ^ 64 from rfl, ← Nat.pow_mul, ← Nat.pow_add]
theorem pow_row (cs : Array Value) (k t : Nat) (hk : k + 2 ≤ cs.size) : ∀ (j x : Nat), (List.replicate k 0 ++ [2 ^ t, 0])[j]? = some x →
 (putV ((cs.setIfInBounds k (.int .u64 ((2 ^ t : Nat) : Int))).setIfInBounds (k + 1) (.int .u64 0)) 0 (zeros k))[j]? = some (.int .u64 (x : Int)) := by
 intro j x hj;by_cases h : j < k;· have := putV_get_in (zeros k) ((cs.setIfInBounds k (.int .u64 ((2 ^ t : Nat) : Int))).setIfInBounds (k + 1) (.int .u64 0)) 0 j (by simp [zeros]; omega) (by simp [zeros]; exact h);rw [Nat.zero_add] at this;rw [this];rw [List.getElem?_append_left (by simp; exact h)] at hj;simp [h] at hj;subst hj;simp [zeros, h]
 · rw [putV_get_out _ _ _ _ (.inr (by simp [zeros]; omega))];rw [List.getElem?_append_right (by simp; omega)] at hj;simp only [List.length_replicate] at hj;obtain ⟨i, rfl⟩ : ∃ i, j = k + i := ⟨j - k, by omega⟩
   rw [Nat.add_sub_cancel_left] at hj;match i, hj with
   | 0, hj =>
    simp at hj; subst hj;rw [Array.getElem?_setIfInBounds, if_neg (by omega), Array.getElem?_setIfInBounds, if_pos (by omega), if_pos (by omega)]
   | 1, hj =>
    simp at hj; subst hj;rw [Array.getElem?_setIfInBounds, if_pos (by omega), if_pos (by simp; omega)];rfl
   | i + 2, hj => simp at hj
theorem limbs_one : limbs 1 = [1] := by rw [limbs_pos (by omega), Nat.mod_eq_of_lt (by decide), Nat.div_eq_of_lt (by decide), limbs_zero]
theorem pow_normed (k t : Nat) (ht : t ≤ 63) : normL (List.replicate k 0 ++ [2 ^ t, 0]) = limbs (2 ^ (64 * k + t)) := by
 rw [normL_limbs, nval_pow];intro x hx;rcases List.mem_append.1 hx with h | h;· rw [List.eq_of_mem_replicate h]; exact WB_pos
 · simp at h;rcases h with rfl | rfl
   · have : 2 ^ t ≤ 2 ^ 63 := Nat.pow_le_pow_right (by omega) ht;rw [WB_eq]; omega
   · exact WB_pos
set_option maxRecDepth 100000 in
set_option maxHeartbeats 1000000 in
theorem natLsh_one (g cap s : Nat) (w : World) (hx : NatAt w (.slice (some ⟨g, 0, none⟩) 1 cap) [1]) (hs : s ≤ 200) :
 Calls Tryz.prog 262 #[.slice (some ⟨g, 0, none⟩) 1 cap, .slice (some ⟨g, 0, none⟩) 1 cap, .int .u64 (s : Int)] w (NatRes w (.slice (some ⟨g, 0, none⟩) 1 cap) (2 ^ s)) := by
 by_cases h0 : s = 0
 · subst h0;have N : NatRes w (.slice (some ⟨g, 0, none⟩) 1 cap) (2 ^ 0) (.returned (.slice (some ⟨g, 0, none⟩) 1 cap)) w := ⟨_, rfl, by rw [Nat.pow_zero, limbs_one]; exact hx, Fr.refl _ _, fun k h => .inl h⟩
   have fin : ∀ w1, Fr NoB w w1 → NatRes w (.slice (some ⟨g, 0, none⟩) 1 cap) (2 ^ 0) (.returned (.slice (some ⟨g, 0, none⟩) 1 cap)) w1 := fun w1 hF =>
    ⟨_, rfl, by rw [Nat.pow_zero, limbs_one]; exact hx.fr hF (fun _ _ h => h), hF.mono (fun _ _ h => h.elim), fun k h => .inl h⟩
   have FIN := hid fin;clear N fin hx;go_enter Tryz.func262, Tryz.ntmps262;go_wp2_with fail;refine (same_yes g 1 cap (by omega) w).mono ?_;rintro e w1 ⟨rfl, hF⟩;have N := hid (FIN.out w1 hF);clear hF;go_wp2_with fail;go_ret;exact N.out
 · have s0 : ((s : Int) == 0) = false := beq_eq_false_iff_ne.2 (by omega);obtain ⟨k, hk⟩ : ∃ k, s / 64 = k := ⟨_, rfl⟩
   obtain ⟨t, ht⟩ : ∃ t, s % 64 = t := ⟨_, rfl⟩
   have ht63 : t ≤ 63 := by omega
   have hk3 : k ≤ 3 := by omega
   have hsk : s = 64 * k + t := by omega
   have he1 : (s : Int) / 64 = (k : Int) := by omega
   have he2 : (s : Int) % 64 = (t : Int) := by omega
   have HM := natMake (.slice (some ⟨g, 0, none⟩) 1 cap) [1] (k + 2) w hx (by omega) (by omega);rw [show ((k + 2 : Nat) : Int) = 1 + (k : Int) + 1 by omega] at HM;have HM := hid HM;have HX := hid hx;obtain ⟨gx, capx, hxe, hxc, hxl, hxlt, hxm, _⟩ := hx.cell (by simp);cases hxe;have HXC := hid (hxc 0 1 rfl);have HNR := hid (pow_normed k t ht63);rw [← hsk] at HNR;clear hx hk ht hsk hxc;have hal : Calls Tryz.prog 261 #[.slice (some ⟨g, 0, none⟩) 1 cap, .slice (some ⟨g, 0, none⟩) 1 cap] w (SaysB w true) := same_yes g 1 cap (by omega) w;clear hal;go_enter Tryz.func262, Tryz.ntmps262;go_wp2_with fail;refine HM.out.mono ?_;clear HM;rintro e w1 ⟨gz, capz, csz, rfl, hg, h1, h2, h3, hF, hgb⟩;have HG := hid hg; have HF := hid hF; have HGB := hid hgb;have hxc1 : w1.cell? ⟨g, 0, none⟩ = some (.int .u64 1) := hF.cell' HXC.out (fun h => h);obtain ⟨v0, hv0⟩ : ∃ u, csz[k]? = some u := ⟨_, Array.getElem?_eq_getElem (by omega)⟩
   obtain ⟨v1, hv1⟩ : ∃ u, csz[k + 1]? = some u := ⟨_, Array.getElem?_eq_getElem (by omega)⟩
   -- what is left once the two upper words stand
   have fin : ∀ (A : Array Value) (w2 : World), w2.heap[gz]? = some (.cells A 105 (0, 0)) → A = (csz.setIfInBounds k (.int .u64 ((2 ^ t : Nat) : Int))).setIfInBounds (k + 1) (.int .u64 0) → Fr (fun i => i = gz) w1 w2 →
    (∀ ty c, (Builtin.clear_ #[66] ty #[.slice (some ⟨gz, 0, none⟩) k c]).run Tryz.prog w2 = .ok (.tuple #[]) (w2.setCells gz 0 (zeros k))) ∧ NatAt (w2.setCells gz 0 (zeros k)) (.slice (some ⟨gz, 0, none⟩) (k + 2) capz) (List.replicate k 0 ++ [2 ^ t, 0]) ∧
    ∀ v' w3, Normed (w2.setCells gz 0 (zeros k)) (.slice (some ⟨gz, 0, none⟩) (k + 2) capz) (List.replicate k 0 ++ [2 ^ t, 0]) (.returned v') w3 → NatRes w (.slice (some ⟨g, 0, none⟩) 1 cap) (2 ^ s) (.returned v') w3 := by
    intro A w2 hA hAe hF2;have hsz : A.size = csz.size := by rw [hAe]; simp
    refine ⟨fun ty c => run_clear66 gz k c A ty w2 hA (by omega), ?_, ?_⟩;· refine .inr ⟨gz, capz, _, by simp, setCells_blk gz 105 _ 0 A w2 hA, by rw [putV_size]; omega, by simp; omega, h3, fun j x hj => ?_⟩;rw [hAe];exact pow_row csz k t (by omega) j x hj
    · rintro v' w3 ⟨rfl, u, hu, k1, k2⟩;cases hu;rw [HNR.out] at k1;refine ⟨_, rfl, k1, ?_, fun i hi => ?_⟩
      · have hF3 : Fr (fun i => i = gz) w1 (w2.setCells gz 0 (zeros k)) := Fr.setCells (S := fun i => i = gz) gz _ 0 w2 hF2 (fun _ => rfl);refine Fr.trans (HF.out.mono (fun _ _ h => h.elim)) hF3 (fun i hi h => ?_);subst h;exact HGB.out.resolve_right (Nat.not_le.2 hi)
      · rw [k2] at hi;cases hi;exact HGB.out
   have FIN := hid fin;clear fin hg hF hgb;by_cases ht0 : t = 0
   · subst ht0;have hsrc : ∀ (j : Nat) (u : Value), ([Value.int .u64 1] : List Value)[j]? = some u → w1.cell? ((⟨g, 0, none⟩ : Addr).add j) = some u := fun j u hj => by
      cases j with
      | zero => simp at hj; subst hj; rw [add_plain]; exact hxc1
      | succ j => simp at hj
     have hrow : (csz.toList.take k ++ Value.int .u64 1 :: csz.toList.drop (k + 1)).toArray = csz.setIfInBounds k (.int .u64 1) := by
      apply Array.ext';rw [Array.toList_setIfInBounds, List.set_eq_take_append_cons_drop, if_pos (by simp; omega)]
     have hn : (([Value.int .u64 1] : List Value)).length = Nat.min 1 (1 + k - (1 + k - 1)) := by rw [show 1 + k - (1 + k - 1) = 1 by omega]; rfl
     have h1c : ∀ u ∈ ([Value.int .u64 1] : List Value), u.oneCell' = true := fun u hu => by simp at hu; subst hu; rfl
     have HN := hid hn; have H1C := hid h1c; have HSR := hid hsrc; have HFT := hid (show 1 + k - 1 + ([Value.int .u64 1] : List Value).length ≤ csz.size by simp; omega);have HRW := hid hrow;clear hsrc hrow hn h1c;go_wp2_with (refine wpList_copy_own rfl (.tmp 46) (.tmp 47) 66 66 rfl 105 Tryz.underlying66 Tryz.size105 gz (1 + k - 1) (1 + k - (1 + k - 1)) (capz - (1 + k - 1)) ⟨g, 0, none⟩ 1 cap rfl rfl csz 105 HG.out [.int .u64 1] HN.out HSR.out HFT.out H1C.out ?_; refine Hid.out ?_);refine hid ?_;rw [HRW.out];have hg2 : (w1.setRow gz (csz.setIfInBounds k (.int .u64 1))).heap[gz]? = some (.cells (csz.setIfInBounds k (.int .u64 1)) 105 (0, 0)) := setRow_heap w1 gz _ _ _ _ HG.out;have hF2 : Fr (fun i => i = gz) w1 (w1.setRow gz (csz.setIfInBounds k (.int .u64 1))) := Fr.setRow (S := fun i => i = gz) (Fr.refl _ _) (fun _ => rfl) _;generalize w1.setRow gz (csz.setIfInBounds k (.int .u64 1)) = w2 at *
     have hg3 := blk_set hg2 (1 + k) (.int .u64 0);have hF3 : Fr (fun i => i = gz) w1 (w2.setCell ⟨gz, 1 + k, none⟩ (.int .u64 0)) := Fr.setCell (S := fun i => i = gz) (p := ⟨gz, 1 + k, none⟩) hF2 (fun _ => rfl) _;obtain ⟨hcl, hat, hfin⟩ := FIN.out _ _ hg3 (by rw [Nat.add_comm 1 k]; rfl) hF3;have HN2 := hid (natNorm _ _ _ hat);have HFI := hid hfin;have k1 : w2.cell? ⟨gz, 1 + k, none⟩ = some v1 := by
      rw [blk_cell hg2, Array.getElem?_setIfInBounds, if_neg (by omega), Nat.add_comm 1 k]; exact hv1
     have f1 : w2.frozen? ⟨gz, 1 + k, none⟩ = false := blk_frozen hg2 _;clear hg2 hg3 hF2 hF3 hat hfin hv0 hv1 HRW HSR HN H1C HFT;go_wp2_with (simp only [hcl]);refine HN2.out.mono ?_;rintro e w3 ⟨hw, v', rfl, k1, k2⟩;have N := hid (HFI.out v' w3 ⟨hw, v', rfl, k1, k2⟩);clear hw k1 k2;go_wp2_with fail;go_ret;exact N.out
   · have t0 : ((t : Int) == 0) = false := beq_eq_false_iff_ne.2 (by omega);have HL := lshVU_one gz k (capz - k) g cap t 1 w1 csz HG.out v0 hv0 hxc1 (by omega) ht63 (by omega);have q1 : 1 / 2 ^ (64 - t) = 0 := Nat.div_eq_of_lt (Nat.one_lt_two_pow (by omega));have q2 : 1 * 2 ^ t % 18446744073709551616 = 2 ^ t := by
      have : 2 ^ t ≤ 2 ^ 63 := Nat.pow_le_pow_right (by omega) ht63;rw [Nat.one_mul, Nat.mod_eq_of_lt (by omega)]
     rw [q1, q2, show ((0 : Nat) : Int) = 0 from rfl] at HL;have HL := hid HL;have hg2 := blk_set HG.out k (.int .u64 ((2 ^ t : Nat) : Int));have hg3 := blk_set hg2 (1 + k) (.int .u64 0);have hF3 : Fr (fun i => i = gz) w1 ((w1.setCell ⟨gz, k, none⟩ (.int .u64 ((2 ^ t : Nat) : Int))).setCell ⟨gz, 1 + k, none⟩ (.int .u64 0)) :=
      Fr.setCell (S := fun i => i = gz) (p := ⟨gz, 1 + k, none⟩) (Fr.setCell (S := fun i => i = gz) (p := ⟨gz, k, none⟩) (Fr.refl _ _) (fun _ => rfl) _) (fun _ => rfl) _
     obtain ⟨hcl, hat, hfin⟩ := FIN.out _ _ hg3 (by rw [Nat.add_comm 1 k]) hF3;have HN := hid (natNorm _ _ _ hat);have HFI := hid hfin;have k1 : (w1.setCell ⟨gz, k, none⟩ (.int .u64 ((2 ^ t : Nat) : Int))).cell? ⟨gz, 1 + k, none⟩ = some v1 := by
      rw [blk_cell hg2, Array.getElem?_setIfInBounds, if_neg (by omega), Nat.add_comm 1 k]; exact hv1
     have f1 : (w1.setCell ⟨gz, k, none⟩ (.int .u64 ((2 ^ t : Nat) : Int))).frozen? ⟨gz, 1 + k, none⟩ = false := blk_frozen hg2 _;clear hg2 hg3 hF3 hat hfin q1 q2 hv0 hv1;generalize 2 ^ t = pt at *
     go_wp2_with fail;refine HL.out.mono ?_;rintro e w2 ⟨rfl, rfl⟩;go_wp2_with (simp only [hcl]);refine HN.out.mono ?_;rintro e w3 ⟨hw, v', rfl, k1, k2⟩;have N := hid (HFI.out v' w3 ⟨hw, v', rfl, k1, k2⟩);clear hw k1 k2;go_wp2_with fail;go_ret;exact N.out
set_option maxRecDepth 100000 in
set_option maxHeartbeats 1000000 in
theorem addMulVVWW_g (gz oz cz cx gy cy : Nat) (csz : Array Value) (xs ys : List Nat) (m : Nat) (w : World)
 (hz : w.heap[gz]? = some (.cells csz 105 (0, 0))) (hzn : oz + xs.length ≤ csz.size) (hx : ∀ (j x : Nat), xs[j]? = some x → csz[oz + j]? = some (.int .u64 (x : Int)))
 (hy : ∀ (j y : Nat), ys[j]? = some y → w.cell? ⟨gy, j, none⟩ = some (.int .u64 (y : Int))) (hgy : gy ≠ gz)
 (hxb : ∀ x ∈ xs, x < WB) (hyb : ∀ y ∈ ys, y < WB) (hm : m < WB) (hl : xs.length = ys.length) (hlen : xs.length ≤ 1000000) :
 Calls Tryz.prog 315 #[.slice (some ⟨gz, oz, none⟩) xs.length cz, .slice (some ⟨gz, oz, none⟩) xs.length cx, .slice (some ⟨gy, 0, none⟩) xs.length cy, .int .u64 (m : Int), .int .u64 0] w
  fun e w' => e = .returned (.int .u64 (amC xs ys m 0 : Int)) ∧ w'.heap[gz]? = some (.cells (putV csz oz (u64s (amZ xs ys m 0))) 105 (0, 0)) ∧ Fr (fun i => i = gz) w w' := by
 have HZ := hid hz; have HX := hid hx; have HY := hid hy; have HXB := hid hxb; have HYB := hid hyb; have HM := hid hm; have HL := hid hl;clear hz hx hy hxb hyb hm hl;go_enter Tryz.func315, Tryz.ntmps315;go_wp2_with fail;go_loopw [10, 32] (fun c i wr => ∃ k : Nat, k ≤ xs.length ∧ i = .int .i64 k ∧ c = .int .u64 (amC (xs.take k) (ys.take k) m 0 : Nat) ∧ Hid (wr.heap[gz]? = some (.cells (putV csz oz (u64s (amZ (xs.take k) (ys.take k) m 0))) 105 (0, 0))) ∧ Hid (Fr (fun i => i = gz) w wr)) (fun _ i _ => xs.length - (intOf i).toNat);case atStart => exact ⟨0, Nat.zero_le _, rfl, rfl, hid (by simpa [amZ, putV, u64s] using HZ.out), hid (Fr.refl _ _)⟩
 case round =>
  obtain ⟨k, hk, rfl, rfl, hwr, hF⟩ := hrel;by_cases hlt : k < xs.length
  · have hl := HL.out;obtain ⟨x, hxk⟩ : ∃ x, xs[k]? = some x := ⟨xs[k], List.getElem?_eq_getElem hlt⟩
    obtain ⟨y, hyk⟩ : ∃ y, ys[k]? = some y := ⟨ys[k]'(by omega), List.getElem?_eq_getElem (by omega)⟩
    have htx : xs.take (k + 1) = xs.take k ++ [x] := by rw [List.take_add_one, hxk]; rfl
    have hty : ys.take (k + 1) = ys.take k ++ [y] := by rw [List.take_add_one, hyk]; rfl
    have htl : (xs.take k).length = (ys.take k).length := by rw [List.length_take, List.length_take, ← hl]
    have hxb : x < WB := HXB.out x (List.mem_of_getElem? hxk);have hyb : y < WB := HYB.out y (List.mem_of_getElem? hyk);have hcb : amC (xs.take k) (ys.take k) m 0 < WB := amC_lt _ _ HM.out _ _ WB_pos (fun u hu => HXB.out u (List.mem_of_mem_take hu)) (fun u hu => HYB.out u (List.mem_of_mem_take hu));have hlk : (u64s (amZ (xs.take k) (ys.take k) m 0)).length = k := by rw [u64s_length, amZ_length _ _ _ _ htl, List.length_take, Nat.min_eq_left hk]
    have hsz : (putV csz oz (u64s (amZ (xs.take k) (ys.take k) m 0))).size = csz.size := putV_size _ _ _;have hcellx : wr.cell? ⟨gz, oz + k, none⟩ = some (.int .u64 (x : Int)) := by
     rw [blk_cell hwr.out, putV_get_out _ _ _ _ (.inr (by omega))];exact HX.out k x hxk
    have hcelly : wr.cell? ⟨gy, k, none⟩ = some (.int .u64 (y : Int)) := hF.out.cell' (HY.out k y hyk) hgy;have hfz : wr.frozen? ⟨gz, oz + k, none⟩ = false := blk_frozen hwr.out _;obtain ⟨hs1, hs2⟩ := am_snoc (xs.take k) x y m (ys.take k) 0 htl;obtain ⟨a1, a2, a3⟩ := amStep x y m (amC (xs.take k) (ys.take k) m 0) hxb hyb HM.out hcb;have hset := blk_set hwr.out (oz + k) (.int .u64 (((y * m + x + amC (xs.take k) (ys.take k) m 0) % WB : Nat) : Int));have hput : (putV csz oz (u64s (amZ (xs.take k) (ys.take k) m 0))).setIfInBounds (oz + k) (.int .u64 (((y * m + x + amC (xs.take k) (ys.take k) m 0) % WB : Nat) : Int)) = putV csz oz (u64s (amZ (xs.take (k + 1)) (ys.take (k + 1)) m 0)) := by
     rw [htx, hty, hs1, u64s_append, show u64s [(y * m + x + amC (xs.take k) (ys.take k) m 0) % WB] = [.int .u64 (((y * m + x + amC (xs.take k) (ys.take k) m 0) % WB : Nat) : Int)] from rfl, putV_snoc, hlk]
    rw [hput] at hset;have hcn : amC (xs.take (k + 1)) (ys.take (k + 1)) m 0 = (y * m + x + amC (xs.take k) (ys.take k) m 0) / WB := by rw [htx, hty, hs2]
    have HSET := hid hset; have HCN := hid hcn; have HF := hF;have M := hid (fun w => mulAddWWW y m x hyb HM.out hxb w);have A := hid (bitsAdd ((y * m + x) % WB) (amC (xs.take k) (ys.take k) m 0) 0 (by omega));simp only [← WB_eq] at A;have hhi : (y * m + x) / WB < WB := by
     have := am_carry (c := 0) hxb hyb HM.out WB_pos;simpa using this
    rw [a2] at A;have ho : (0 : Int) ≤ (k : Int) := by omega
    have hlt' : (k : Int) < (xs.length : Int) := by omega
    clear hset hcn hput hwr hF hsz hlk htx hty hxk hyk hs1 hs2 a2 htl hl;have hsum : ((((y * m + x) % WB + amC (xs.take k) (ys.take k) m 0 + 0) / WB : Nat) : Int) + (((y * m + x) / WB : Nat) : Int) = (((y * m + x + amC (xs.take k) (ys.take k) m 0) / WB : Nat) : Int) := by rw [← a1]; simp
    have HSUM := hid hsum;clear hsum a1;generalize amC (xs.take k) (ys.take k) m 0 = c at *
    generalize (y * m + x + c) % WB = lo at *
    generalize (y * m + x + c) / WB = hi at *
    generalize ((y * m + x) % WB + c + 0) / WB = q1 at *
    generalize (y * m + x) / WB = q2 at *
    generalize (y * m + x) % WB = q3 at *
    rw [WB_eq] at a3 hxb hyb hcb hhi;have hs3 : 0 ≤ (q1 : Int) + (q2 : Int) ∧ (q1 : Int) + (q2 : Int) ≤ 18446744073709551615 := by have := HSUM.out; omega
    go_wp2_with fail;go_quiet ((go_at_call 295; exact Calls.quiet_of_same ((M.out _).mono fun e w' h => ⟨h.1, h.2.symm⟩)));go_wp2_with fail;refine (A.out _).mono ?_;rintro e w2 ⟨rfl, rfl⟩;go_wp2_with fail;go_roundw;case rel => exact ⟨k + 1, by omega, by go_num, by rw [HCN.out]; exact congrArg (Value.int .u64) HSUM.out, hid HSET.out, hid (Fr.setCell (S := fun i => i = gz) (p := ⟨gz, oz + k, none⟩) (HF.out.drewN _) (fun _ => rfl) _)⟩
    case measure => simp [intOf]; omega
  · obtain rfl : k = xs.length := by omega
    have hl := HL.out;have ht : xs.take xs.length = xs := List.take_length;have ht2 : ys.take xs.length = ys := by rw [hl, List.take_length]
    have hw := hwr.out;rw [ht, ht2] at hw ⊢;have HW := hid hw;clear ht ht2 hl hw hwr;go_wp2_with fail;go_ret;exact ⟨rfl, HW.out, hF.out⟩
set_option maxRecDepth 100000 in
theorem addMulVVWW (gz oz cz cx gy cy : Nat) (csz : Array Value) (xs ys : List Nat) (m : Nat) (w : World)
 (hz : w.heap[gz]? = some (.cells csz 105 (0, 0))) (hzn : oz + xs.length ≤ csz.size) (hx : ∀ (j x : Nat), xs[j]? = some x → csz[oz + j]? = some (.int .u64 (x : Int)))
 (hy : ∀ (j y : Nat), ys[j]? = some y → w.cell? ⟨gy, j, none⟩ = some (.int .u64 (y : Int))) (hgy : gy ≠ gz)
 (hxb : ∀ x ∈ xs, x < WB) (hyb : ∀ y ∈ ys, y < WB) (hm : m < WB) (hl : xs.length = ys.length) (hlen : xs.length ≤ 1000000) :
 Calls Tryz.prog 293 #[.slice (some ⟨gz, oz, none⟩) xs.length cz, .slice (some ⟨gz, oz, none⟩) xs.length cx, .slice (some ⟨gy, 0, none⟩) xs.length cy, .int .u64 (m : Int), .int .u64 0] w
  fun e w' => e = .returned (.int .u64 (amC xs ys m 0 : Int)) ∧ w'.heap[gz]? = some (.cells (putV csz oz (u64s (amZ xs ys m 0))) 105 (0, 0)) ∧ Fr (fun i => i = gz) w w' := by
 have H := hid (addMulVVWW_g gz oz cz cx gy cy csz xs ys m w hz hzn hx hy hgy hxb hyb hm hl hlen);clear hz hx hy hxb hyb hm hl hlen hzn;generalize putV csz oz (u64s (amZ xs ys m 0)) = A at *
 generalize amC xs ys m 0 = c at *
 generalize xs.length = n at *
 go_enter Tryz.func293, Tryz.ntmps293;go_wp2_with fail;refine H.out.mono ?_;rintro e w1 ⟨rfl, h1, h2⟩;have H1 := hid h1; have H2 := hid h2;clear h1 h2;go_wp2_with fail;go_ret;exact ⟨rfl, H1.out, H2.out⟩
def MulAt (w : World) (gz sz n l X : Nat) (ys : List Nat) (k : Nat) : Prop :=
 ∃ (A : Array Value) (L : List Nat), w.heap[gz]? = some (.cells A 105 (0, 0)) ∧ A.size = sz ∧ L.length = n + l ∧ (∀ u ∈ L, u < WB) ∧ (∀ (j u : Nat), L[j]? = some u → A[j]? = some (.int .u64 (u : Int))) ∧
  nval (L.take (n + k)) = X * nval (ys.take k) ∧ ∀ j, n + k ≤ j → j < n + l → L[j]? = some 0
theorem mul_step {L xs ys : List Nat} {n l X k y : Nat} (hxn : xs.length = n) (hX : nval xs = X) (hL : L.length = n + l) (hb : ∀ u ∈ L, u < WB) (hxb : ∀ u ∈ xs, u < WB) (hy : y < WB)
 (hv : nval (L.take (n + k)) = X * nval (ys.take k)) (hz : ∀ j, n + k ≤ j → j < n + l → L[j]? = some 0) (hk : k < l) (hyk : ys[k]? = some y) :
 let T := amZ ((L.drop k).take n) xs y 0 ++ [amC ((L.drop k).take n) xs y 0]
 let L' := L.take k ++ (T ++ L.drop (n + k + 1))
 L'.length = n + l ∧ (∀ u ∈ L', u < WB) ∧ nval (L'.take (n + (k + 1))) = X * nval (ys.take (k + 1)) ∧ ∀ j, n + (k + 1) ≤ j → j < n + l → L'[j]? = some 0 := by
 intro T L';have hmid : ((L.drop k).take n).length = n := by rw [List.length_take, List.length_drop]; omega
 have hlo : (L.take k).length = k := by rw [List.length_take]; omega
 have hT : T.length = n + 1 := by rw [List.length_append, amZ_length _ _ _ _ (by omega), hmid]; rfl
 have hT1 : (L.take k ++ T).length = n + (k + 1) := by rw [List.length_append, hlo, hT]; omega
 have hLL : L' = (L.take k ++ T) ++ L.drop (n + k + 1) := by simp [L', List.append_assoc]
 refine ⟨by rw [hLL, List.length_append, hT1, List.length_drop]; omega, fun u hu => ?_, ?_, fun j h1 h2 => ?_⟩
 · rw [hLL] at hu;rcases List.mem_append.1 hu with h | h
   · rcases List.mem_append.1 h with h | h
     · exact hb u (List.mem_of_mem_take h)
     · rcases List.mem_append.1 h with h | h
       · exact amZ_lt _ _ _ _ u h
       · simp at h; subst h;exact amC_lt _ _ hy _ _ WB_pos (fun v hv => hb v (List.mem_of_mem_drop (List.mem_of_mem_take hv))) hxb
   · exact hb u (List.mem_of_mem_drop h)
 · rw [hLL, List.take_left' hT1, nval_take_succ ys k y hyk];refine row_step hlo hmid hxn hX ?_;rw [← hv, show n + k = k + n by omega, List.take_add]
 · rw [hLL, List.getElem?_append_right (by omega), hT1, List.getElem?_drop];rw [show n + k + 1 + (j - (n + (k + 1))) = j by omega];exact hz j (by omega) h2
theorem sub_get {L : List Nat} {k n j u : Nat} (h : ((L.drop k).take n)[j]? = some u) : L[k + j]? = some u := by
 rw [List.getElem?_take] at h;split at h
 · rw [List.getElem?_drop] at h; exact h
 · cases h
theorem mul_cells {A : Array Value} {L T : List Nat} {k n l : Nat} (hA : n + l ≤ A.size) (hL : L.length = n + l) (hk : k < l) (hT : T.length = n + 1) (h5 : ∀ (j u : Nat), L[j]? = some u → A[j]? = some (.int .u64 (u : Int))) :
 ∀ (j u : Nat), (L.take k ++ (T ++ L.drop (n + k + 1)))[j]? = some u → (putV A k (u64s T))[j]? = some (.int .u64 (u : Int)) := by
 intro j u hj;have hlo : (L.take k).length = k := by rw [List.length_take]; omega
 by_cases h1 : j < k;· rw [putV_get_out _ _ _ _ (.inl h1)];rw [List.getElem?_append_left (by omega), List.getElem?_take_of_lt h1] at hj;exact h5 j u hj
 · rw [List.getElem?_append_right (by omega), hlo] at hj;by_cases h2 : j < k + (n + 1)
   · rw [List.getElem?_append_left (by omega)] at hj;have := putV_get_in (u64s T) A k (j - k) (by rw [u64s_length]; omega) (by rw [u64s_length]; omega);rw [show k + (j - k) = j by omega] at this;rw [this, u64s_get, hj];rfl
   · rw [putV_get_out _ _ _ _ (.inr (by rw [u64s_length]; omega))];rw [List.getElem?_append_right (by omega), hT, List.getElem?_drop, show n + k + 1 + (j - k - (n + 1)) = j by omega] at hj;exact h5 j u hj
set_option maxRecDepth 100000 in
set_option maxHeartbeats 2000000 in
theorem basicMul (gz cz gx cx gy cy : Nat) (csz : Array Value) (xs ys : List Nat) (w : World)
 (hz : w.heap[gz]? = some (.cells csz 105 (0, 0))) (hzn : xs.length + ys.length ≤ csz.size) (hcz : xs.length + ys.length ≤ cz)
 (hx : ∀ (j x : Nat), xs[j]? = some x → w.cell? ⟨gx, j, none⟩ = some (.int .u64 (x : Int))) (hgx : gx ≠ gz)
 (hy : ∀ (j y : Nat), ys[j]? = some y → w.cell? ⟨gy, j, none⟩ = some (.int .u64 (y : Int))) (hgy : gy ≠ gz)
 (hxb : ∀ x ∈ xs, x < WB) (hyb : ∀ y ∈ ys, y < WB) (hlx : xs.length ≤ 1000) (hly : ys.length ≤ 1000) (hlx1 : 1 ≤ xs.length) (hly1 : 1 ≤ ys.length) :
 Calls Tryz.prog 254 #[.slice (some ⟨gz, 0, none⟩) (xs.length + ys.length) cz, .slice (some ⟨gx, 0, none⟩) xs.length cx, .slice (some ⟨gy, 0, none⟩) ys.length cy] w
  fun e w' => e = .returned (.tuple #[]) ∧ MulAt w' gz csz.size xs.length ys.length (nval xs) ys ys.length ∧ Fr (fun i => i = gz) w w' := by
 have HZ := hid hz; have HX := hid hx; have HY := hid hy; have HXB := hid hxb; have HYB := hid hyb;have hcl := fun ty => run_clear66 gz (xs.length + ys.length) cz csz ty w hz (by omega)
 have h0 : MulAt (w.setCells gz 0 (zeros (xs.length + ys.length))) gz csz.size xs.length ys.length (nval xs) ys 0 := by
  refine ⟨_, List.replicate (xs.length + ys.length) 0, setCells_blk gz 105 _ 0 csz w hz, putV_size _ _ _, by simp, fun u hu => by rw [List.eq_of_mem_replicate hu]; exact WB_pos, fun j u hj => ?_, ?_, fun j h1 h2 => ?_⟩;· have hlt := (List.getElem?_eq_some_iff.1 hj).1;rw [List.length_replicate] at hlt;have hu : u = 0 := List.eq_of_mem_replicate (List.mem_of_getElem? hj);subst hu;have := putV_get_in (zeros (xs.length + ys.length)) csz 0 j (by simp [zeros]; omega) (by simp [zeros]; exact hlt);rw [Nat.zero_add] at this;rw [this];simp [zeros, hlt]
  · rw [List.take_replicate, nval_zeros, List.take_zero]; rfl
  · rw [List.getElem?_replicate, if_pos h2]
 have hF0 : Fr (fun i => i = gz) w (w.setCells gz 0 (zeros (xs.length + ys.length))) := Fr.setCells (S := fun i => i = gz) gz _ 0 w (Fr.refl _ _) (fun _ => rfl);have H0 := hid h0; have HF0 := hid hF0;clear hz hx hy hxb hyb h0 hF0;generalize hW0 : w.setCells gz 0 (zeros (xs.length + ys.length)) = w0 at *
 clear hW0;go_enter Tryz.func254, Tryz.ntmps254;go_wp2_with (simp only [hcl]);go_loopw [17] (fun i wr => ∃ k : Nat, k ≤ ys.length ∧ i = .int .i64 k ∧ Hid (MulAt wr gz csz.size xs.length ys.length (nval xs) ys k) ∧ Hid (Fr (fun i => i = gz) w wr)) (fun i _ => ys.length - (intOf i).toNat);case atStart => exact ⟨0, Nat.zero_le _, rfl, H0, HF0⟩
 case round =>
  obtain ⟨k, hk, rfl, hM, hF⟩ := hrel;by_cases hlt : k < ys.length
  · obtain ⟨y, hyk⟩ : ∃ y, ys[k]? = some y := ⟨ys[k], List.getElem?_eq_getElem hlt⟩
    have hyb : y < WB := HYB.out y (List.mem_of_getElem? hyk);have hcy : wr.cell? ⟨gy, k, none⟩ = some (.int .u64 (y : Int)) := hF.out.cell' (HY.out k y hyk) hgy;obtain ⟨A, L, m1, m2, m3, m4, m5, m6, m7⟩ := hM.out;by_cases hy0 : y = 0
    · subst hy0;have hnext : MulAt wr gz csz.size xs.length ys.length (nval xs) ys (k + 1) := by
       refine ⟨A, L, m1, m2, m3, m4, m5, ?_, fun j h1 h2 => m7 j (by omega) h2⟩;rw [nval_take_succ ys k 0 hyk];simp only [Nat.mul_zero, Nat.add_zero];rw [← m6, show xs.length + (k + 1) = xs.length + k + 1 by omega, List.take_add_one, m7 (xs.length + k) (Nat.le_refl _) (by omega), nval_append];simp [nval]
      have HN := hid hnext;clear hnext m1 m2 m3 m4 m5 m6 m7 hM hyk;go_wp2_with fail;go_roundw;case rel => exact ⟨k + 1, by omega, by go_num, HN, hF⟩
      case measure => simp [intOf]; omega
    · have yb : ((y : Int) != 0) = true := by simpa using hy0
      have hstep := mul_step rfl rfl m3 m4 HXB.out hyb m6 m7 hlt hyk;have hmid : ((L.drop k).take xs.length).length = xs.length := by rw [List.length_take, List.length_drop]; omega
      have HC := addMulVVWW gz k (cz - k) (cz - k) gx cx A ((L.drop k).take xs.length) xs y wr.drew m1 (by omega) (fun j x hj => m5 _ _ (sub_get hj)) (fun j x hj => hF.out.cell' (HX.out j x hj) hgx) hgx (fun u hu => m4 u (List.mem_of_mem_drop (List.mem_of_mem_take hu))) HXB.out hyb hmid (by omega);rw [hmid] at HC;have hsz : (putV A k (u64s (amZ ((L.drop k).take xs.length) xs y 0))).size = csz.size := by rw [putV_size]; exact m2
      have hT0 : (amZ ((L.drop k).take xs.length) xs y 0).length = xs.length := by rw [amZ_length _ _ _ _ hmid]; exact hmid
      have hfin : ∀ w2 : World, w2.heap[gz]? = some (.cells (putV A k (u64s (amZ ((L.drop k).take xs.length) xs y 0))) 105 (0, 0)) → Fr (fun i => i = gz) wr.drew w2 →
       (∃ v, w2.cell? ⟨gz, xs.length + k, none⟩ = some v) ∧ w2.frozen? ⟨gz, xs.length + k, none⟩ = false ∧
       MulAt (w2.setCell ⟨gz, xs.length + k, none⟩ (.int .u64 (amC ((L.drop k).take xs.length) xs y 0 : Int))) gz csz.size xs.length ys.length (nval xs) ys (k + 1) ∧
       Fr (fun i => i = gz) w (w2.setCell ⟨gz, xs.length + k, none⟩ (.int .u64 (amC ((L.drop k).take xs.length) xs y 0 : Int))) := by
       intro w2 hg2 hF2;refine ⟨?_, blk_frozen hg2 _, ?_, Fr.setCell (S := fun i => i = gz) (p := ⟨gz, xs.length + k, none⟩) (hF.out.drew.trans hF2 (fun _ _ h => h)) (fun _ => rfl) _⟩;· rw [blk_cell hg2]; exact ⟨_, Array.getElem?_eq_getElem (by omega)⟩
       · obtain ⟨s1, s2, s3, s4⟩ := hstep;have hset := blk_set hg2 (xs.length + k) (.int .u64 (amC ((L.drop k).take xs.length) xs y 0 : Int));have hput : (putV A k (u64s (amZ ((L.drop k).take xs.length) xs y 0))).setIfInBounds (xs.length + k) (.int .u64 (amC ((L.drop k).take xs.length) xs y 0 : Int)) = putV A k (u64s (amZ ((L.drop k).take xs.length) xs y 0 ++ [amC ((L.drop k).take xs.length) xs y 0])) := by
          rw [u64s_append, show u64s [amC ((L.drop k).take xs.length) xs y 0] = [.int .u64 (amC ((L.drop k).take xs.length) xs y 0 : Int)] from rfl, putV_snoc, u64s_length, hT0, Nat.add_comm k]
         rw [hput] at hset;exact ⟨_, _, hset, by rw [putV_size]; exact m2, s1, s2, mul_cells (by omega) m3 hlt (by rw [List.length_append, hT0]; rfl) m5, s3, s4⟩
      have HC := hid HC; have HFIN := hid hfin;have e1 : IntKind.i64.wrap ((xs.length : Int) + (k : Int)) = (xs.length : Int) + (k : Int) := IntWalk.i64_in _ (by omega);have e2 : IntKind.i64.wrap ((k : Int) + (xs.length : Int)) = (k : Int) + (xs.length : Int) := IntWalk.i64_in _ (by omega);have e3 : (0 : Int) ≤ (xs.length : Int) + (k : Int) := by omega
      have e4 : (0 : Int) ≤ (k : Int) + (xs.length : Int) := by omega
      have e5 : ((xs.length : Int) + (k : Int)).toNat = xs.length + k := by omega
      have e6 : ((k : Int) + (xs.length : Int)).toNat = k + xs.length := by omega
      have e7 : (xs.length : Int) + (k : Int) < ((xs.length + ys.length : Nat) : Int) := by omega
      have e8 : (k : Int) + (xs.length : Int) ≤ (cz : Int) := by omega
      have e9 : ¬ (cz = k) := by omega
      clear hfin hT0 hsz hmid hstep m1 m2 m3 m4 m5 m6 m7 hM hyk;generalize amC ((L.drop k).take xs.length) xs y 0 = c at *
      go_wp2_with fail;go_region_with (first | (go_at_call 293; refine HC.out.mono ?_; rintro e w2 ⟨rfl, hg2, hF2⟩; obtain ⟨⟨v2, k1⟩, f1, hM2, hF2'⟩ := HFIN.out w2 hg2 hF2; have HM2 := hid hM2; have HF2 := hid hF2'; clear hg2 hF2 hM2 hF2'));go_wp2_with fail;go_roundw;case rel => exact ⟨k + 1, by omega, by go_num, HM2, HF2⟩
      case measure => simp [intOf]; omega
  · obtain rfl : k = ys.length := by omega
    go_wp2_with fail;go_end0;exact ⟨rfl, hM.out, hF.out⟩
structure Thr (w : World) : Prop where
 leaf : w.cell? ⟨9, 0, none⟩ = some (.int .i64 8)
 dr : w.cell? ⟨12, 0, none⟩ = some (.int .i64 40)
 sq : w.cell? ⟨15, 0, none⟩ = some (.int .i64 12)
 ks : w.cell? ⟨16, 0, none⟩ = some (.int .i64 80)
 ka : w.cell? ⟨18, 0, none⟩ = some (.int .i64 40)
theorem Thr.fr {w w' : World} {S : Nat → Prop} (h : Thr w) (hF : Fr S w w') (hS : ∀ i, i < 19 → ¬ S i) : Thr w' :=
 ⟨hF.cell' h.leaf (hS 9 (by omega)), hF.cell' h.dr (hS 12 (by omega)), hF.cell' h.sq (hS 15 (by omega)), hF.cell' h.ks (hS 16 (by omega)), hF.cell' h.ka (hS 18 (by omega))⟩
theorem Thr.size {w : World} (h : Thr w) : 18 < w.heap.size := World.block_lt_of_cell? w _ h.ka
theorem MulAt.nat {w : World} {g sz n X cap : Nat} {ys : List Nat} (h : MulAt w g sz n ys.length X ys ys.length) (h1 : cap ≤ sz) (h2 : n + ys.length ≤ cap) (h3 : cap ≤ 1000000) :
 ∃ L, NatAt w (.slice (some ⟨g, 0, none⟩) (n + ys.length) cap) L ∧ normL L = limbs (X * nval ys) := by
 obtain ⟨A, L, m1, m2, m3, m4, m5, m6, _⟩ := h;refine ⟨L, .inr ⟨g, cap, A, by rw [m3], m1, by omega, by omega, h3, m5⟩, ?_⟩;rw [normL_limbs L m4];rw [← m3, List.take_length, List.take_length] at m6;rw [m6]
theorem mulWW (x y : Nat) (hx : x < 18446744073709551616) (hy : y < 18446744073709551616) (w : World) :
 Calls Tryz.prog 253 #[.int .u64 (x : Int), .int .u64 (y : Int)] w fun e w' => e = .returned (.tuple #[.int .u64 ((x * y / 18446744073709551616 : Nat) : Int), .int .u64 ((x * y % 18446744073709551616 : Nat) : Int)]) ∧ w = w' := by
 have M := hid (Tryz.bits_Mul x y hx hy w);generalize x * y / 18446744073709551616 = a at *
 generalize x * y % 18446744073709551616 = b at *
 go_enter Tryz.func253, Tryz.ntmps253;go_wp2_with fail;refine M.out.mono ?_;rintro e w1 ⟨rfl, rfl⟩;go_wp2_with fail;go_ret2;exact ⟨rfl, rfl⟩
theorem sqr_one {x : Nat} (hx : x < 18446744073709551616) : normL [x * x % 18446744073709551616, x * x / 18446744073709551616] = limbs (x * x) := by
 rw [normL_limbs]
 · congr 1
   simp only [nval, WB_eq];omega
 · intro u hu;have h2 : x * x / 18446744073709551616 < 18446744073709551616 := Nat.div_lt_of_lt_mul (by
    have := Nat.mul_lt_mul'' hx hx;exact this)
   rw [WB_eq];simp at hu;rcases hu with rfl | rfl;· exact Nat.mod_lt _ (by omega)
   · exact h2
set_option maxRecDepth 100000 in
set_option maxHeartbeats 2000000 in
theorem natSqr (v vx : Value) (zs : List Nat) (X : Nat) (w : World) (hv : NatAt w v zs) (hvx : NatAt w vx (limbs X)) (hT : Thr w) (hne : ∀ g, natBlk v = some g → natBlk vx ≠ some g) (h0 : X ≠ 0) (hl : (limbs X).length ≤ 11) (stk : Value) :
 Calls Tryz.prog 216 #[v, stk, vx] w (NatRes w v (X * X)) := by
 have hl1 := limbs_len_pos h0;obtain ⟨gx, capx, rfl, hcx, hcap, hgx, hcm, hbx⟩ := hvx.cell (fun h => by rw [h] at hl1; simp at hl1);have hgne : ∀ g, natBlk v = some g → gx ≠ g := fun g hg e => hne g hg (by rw [← e]; exact hbx)
 by_cases h1 : (limbs X).length = 1
 · obtain ⟨x, hx⟩ : ∃ x, limbs X = [x] := List.length_eq_one_iff.1 h1;have hXx : X = x := by have := nval_limbs X; rw [hx] at this; simpa [nval] using this.symm
   subst hXx;have hxb : X < 18446744073709551616 := limbs_lt X X (by rw [hx]; simp);have c0 := hcx 0 X (by rw [hx]; rfl);have HM := hid (natMake v zs 2 w hv (by omega) (by omega));have HW := hid (fun w => mulWW X X hxb hxb w);have HSQ := hid (sqr_one hxb);rw [h1];clear hv hvx hcx hx hne hgne hT hcap h1 hl hl1;go_enter Tryz.func216, Tryz.ntmps216;go_wp2_with fail;refine HM.out.mono ?_;clear HM;rintro e w1 ⟨g, cap, cs, rfl, hg, k1, k2, k3, hF, hgb⟩;have HG := hid hg; have HF := hid hF; have HGB := hid hgb;clear hF hgb hg;go_wp2_with fail;refine (HW.out _).mono ?_;rintro e w2 ⟨rfl, rfl⟩;obtain ⟨v0, hv0⟩ : ∃ u, cs[0]? = some u := ⟨_, Array.getElem?_eq_getElem (by omega)⟩
   obtain ⟨v1, hv1⟩ : ∃ u, cs[1]? = some u := ⟨_, Array.getElem?_eq_getElem (by omega)⟩
   have b1 : w1.cell? ⟨g, 1, none⟩ = some v1 := by rw [blk_cell HG.out]; exact hv1
   have f1 : w1.frozen? ⟨g, 1, none⟩ = false := blk_frozen HG.out 1;have s1 := blk_set HG.out 1 (.int .u64 ((X * X / 18446744073709551616 : Nat) : Int));have b0 : (w1.setCell ⟨g, 1, none⟩ (.int .u64 ((X * X / 18446744073709551616 : Nat) : Int))).cell? ⟨g, 0, none⟩ = some v0 := by rw [blk_cell s1, Array.getElem?_setIfInBounds, if_neg (by omega)]; exact hv0
   have f0 : (w1.setCell ⟨g, 1, none⟩ (.int .u64 ((X * X / 18446744073709551616 : Nat) : Int))).frozen? ⟨g, 0, none⟩ = false := blk_frozen s1 0;have s0 := blk_set s1 0 (.int .u64 ((X * X % 18446744073709551616 : Nat) : Int));have hat : NatAt ((w1.setCell ⟨g, 1, none⟩ (.int .u64 ((X * X / 18446744073709551616 : Nat) : Int))).setCell ⟨g, 0, none⟩ (.int .u64 ((X * X % 18446744073709551616 : Nat) : Int))) (.slice (some ⟨g, 0, none⟩) 2 cap) [X * X % 18446744073709551616, X * X / 18446744073709551616] := by
    refine .inr ⟨g, cap, _, rfl, s0, by simp; exact k1, k2, k3, fun j u hj => ?_⟩;match j, hj with
    | 0, hj => simp at hj; subst hj; rw [Array.getElem?_setIfInBounds, if_pos rfl, if_pos (by simp; omega)]
    | 1, hj => simp at hj; subst hj; rw [Array.getElem?_setIfInBounds, if_neg (by omega), Array.getElem?_setIfInBounds, if_pos rfl, if_pos (by omega)]
    | j + 2, hj => simp at hj
   have hFw : Fr (fun i => natBlk v = some i) w ((w1.setCell ⟨g, 1, none⟩ (.int .u64 ((X * X / 18446744073709551616 : Nat) : Int))).setCell ⟨g, 0, none⟩ (.int .u64 ((X * X % 18446744073709551616 : Nat) : Int))) := by
    have hgv : g < w.heap.size → natBlk v = some g := fun hlt => HGB.out.resolve_right (Nat.not_le.2 hlt)
    exact Fr.setCell (p := ⟨g, 0, none⟩) (Fr.setCell (p := ⟨g, 1, none⟩) (HF.out.mono (fun _ _ h => h.elim)) hgv _) hgv _
   have HN := hid (natNorm _ _ _ hat);have fin : ∀ v' w3, Normed ((w1.setCell ⟨g, 1, none⟩ (.int .u64 ((X * X / 18446744073709551616 : Nat) : Int))).setCell ⟨g, 0, none⟩ (.int .u64 ((X * X % 18446744073709551616 : Nat) : Int))) (.slice (some ⟨g, 0, none⟩) 2 cap) [X * X % 18446744073709551616, X * X / 18446744073709551616] (.returned v') w3 → NatRes w v (X * X) (.returned v') w3 := by
    rintro v' w3 ⟨rfl, u, hu, k1, k2⟩;cases hu;rw [HSQ.out] at k1;exact ⟨_, rfl, k1, hFw, fun k hk => by rw [k2] at hk; cases hk; exact HGB.out⟩
   have FIN := hid fin;clear fin hFw hat s0 s1 hv0 hv1;generalize X * X / 18446744073709551616 = a at *
   generalize X * X % 18446744073709551616 = b at *
   go_wp2_with fail;refine HN.out.mono ?_;rintro e w3 ⟨hw, v', rfl, k1, k2⟩;have N := hid (FIN.out v' w3 ⟨hw, v', rfl, k1, k2⟩);clear hw k1 k2;go_wp2_with fail;go_ret;exact N.out
 · have HA := alias_no v (.slice (some ⟨gx, 0, none⟩) (limbs X).length capx) zs (limbs X) w hv hvx hne;have q1 : (((limbs X).length : Int) == 1) = false := beq_eq_false_iff_ne.2 (by omega);have q0 : (((limbs X).length : Int) == 0) = false := beq_eq_false_iff_ne.2 (by omega);have HM := hid (fun w1 (hF : Fr NoB w w1) => natMake v zs ((limbs X).length + (limbs X).length) w1 (hv.fr hF (fun _ _ h => h)) (by omega) (by omega));have HCX := hid hcx; have HT := hid hT; have HLB := hid (limbs_lt X); have HNV := hid (nval_limbs X);have HGN := hid hgne; have HA := hid HA;clear hv hvx hcx hne hT hcap h1 hgne;generalize limbs X = xs at *
   go_enter Tryz.func216, Tryz.ntmps216;go_wp2_with fail;refine HA.out.mono ?_;rintro e w1 ⟨rfl, hF1⟩;have HM1 := HM.out w1 hF1;rw [show ((xs.length + xs.length : Nat) : Int) = 2 * (xs.length : Int) by omega] at HM1;have HM1 := hid HM1; have HF1 := hid hF1;clear hF1 HM HA;go_wp2_with fail;refine HM1.out.mono ?_;rintro e w2 ⟨g, cap, cs, rfl, hg, k1, k2, k3, hF2, hgb⟩;have hF02 : Fr NoB w w2 := HF1.out.trans hF2 (fun _ _ h => h);have hT2 : Thr w2 := HT.out.fr hF02 (fun _ _ h => h);have t15 := hT2.sq; have t16 := hT2.ks;have hgxg : gx ≠ g := by
    intro e;rcases hgb with h | h;· exact HGN.out g h e
    · have := HF1.out.size; omega
   have HB := hid (basicMul g cap gx capx gx capx cs xs xs w2 hg (by omega) (by omega) (fun j x hj => hF02.cell' (HCX.out j x hj) (fun h => h)) hgxg (fun j x hj => hF02.cell' (HCX.out j x hj) (fun h => h)) hgxg HLB.out HLB.out (by omega) (by omega) hl1 hl1);have HF02 := hid hF02;have HGB : Hid (natBlk v = some g ∨ w.heap.size ≤ g) := hid (hgb.imp (fun h => h) (fun h => Nat.le_trans HF1.out.size h));clear hF02 hF2 hgb hg hT2 hgxg;go_wp2_with fail;refine HB.out.mono ?_;rintro e w3 ⟨rfl, hm, hF3⟩;obtain ⟨L, hat, hnL⟩ := hm.nat k1 k2 k3;have hFw : Fr (fun i => natBlk v = some i) w w3 := by
    refine Fr.trans (HF02.out.mono (fun _ _ h => h.elim)) hF3 (fun i hi h => ?_);subst h;exact HGB.out.resolve_right (Nat.not_le.2 hi)
   rw [HNV.out] at hnL;have HN := hid (natNorm _ _ _ hat);have fin : ∀ v' w4, Normed w3 (.slice (some ⟨g, 0, none⟩) (xs.length + xs.length) cap) L (.returned v') w4 → NatRes w v (X * X) (.returned v') w4 := by
    rintro v' w4 ⟨rfl, u, hu, j1, j2⟩;cases hu;rw [hnL] at j1;exact ⟨_, rfl, j1, hFw, fun k hk => by rw [j2] at hk; cases hk; exact HGB.out⟩
   have FIN := hid fin;clear fin hFw hat hnL hm hF3 t15 t16;go_wp2_with fail;refine HN.out.mono ?_;rintro e w4 ⟨hw, v', rfl, j1, j2⟩;have N := hid (FIN.out v' w4 ⟨hw, v', rfl, j1, j2⟩);clear hw j1 j2;go_wp2_with fail;go_ret;exact N.out
set_option maxRecDepth 100000 in
set_option maxHeartbeats 2000000 in
theorem natMul1 (v vx vy stk : Value) (zs : List Nat) (X y : Nat) (w : World) (hv : NatAt w v zs) (hvx : NatAt w vx (limbs X)) (hvy : NatAt w vy [y]) (h0 : X ≠ 0) (hy : y < WB) (hl : (limbs X).length ≤ 900) :
 Calls Tryz.prog 234 #[v, stk, vx, vy] w (NatRes w v (X * y)) := by
 have hl1 := limbs_len_pos h0;have HM := natMulAddWW v vx zs X y 0 w hv hvx hy WB_pos hl;rw [Nat.add_zero, show ((0 : Nat) : Int) = 0 from rfl] at HM;have HM := hid HM;obtain ⟨A, c, rfl⟩ := hvx.shape;obtain ⟨gy, capy, rfl, hcy, _⟩ := hvy.cell (by simp);have c0 := hcy 0 y rfl;have q0 : (((limbs X).length : Int) == 0) = false := beq_eq_false_iff_ne.2 (by omega);rw [show ([y] : List Nat).length = 1 from rfl];clear hv hvx hvy hcy h0 hy;generalize (limbs X).length = n at *
 go_enter Tryz.func234, Tryz.ntmps234;go_wp2_with fail;refine HM.out.mono ?_;rintro e w1 ⟨v', rfl, k1, k2, k3⟩;have N := hid (show NatRes w v (X * y) (.returned v') w1 from ⟨v', rfl, k1, k2, k3⟩);clear k1 k2 k3;go_wp2_with fail;go_ret;exact N.out
end Go.Proofs.YteokhhepnoelhaaGreatDoor
