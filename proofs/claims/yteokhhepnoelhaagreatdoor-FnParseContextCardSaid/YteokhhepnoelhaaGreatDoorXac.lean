/-
  Small words that the walks of this seat share: hiding a fact, a frame (which blocks may change), a block known whole.
-/
import Derived.Test.YteokhhepnoelhaaGreatDoorProg
import Derived.WalkKit
import Derived.WalkSpells
import Derived.WalkLawsBesides
import Derived.Handy
import Derived.Outline
import Derived.Shelf.LaysM
import Derived.Shelf.Small.Bits
import Derived.Shelf.Bits.Mul64
import Derived.Laws.Externs
import Derived.Shelf.Spec.BitsCarry
set_option linter.unusedVariables false
set_option linter.unusedSimpArgs false
namespace Go.Proofs.YteokhhepnoelhaaGreatDoor
open Go.RowKit
theorem hid {p : Prop} (h : p) : Hid p := h
structure Fr (S : Nat → Prop) (w w' : World) : Prop where
 os : w'.os = w.os
 tape : w'.tape = w.tape
 output : w'.output = w.output
 size : w.heap.size ≤ w'.heap.size
 block : ∀ k, k < w.heap.size → ¬ S k → w'.heap[k]? = w.heap[k]?
theorem Fr.refl (S : Nat → Prop) (w : World) : Fr S w w := ⟨rfl, rfl, rfl, Nat.le_refl _, fun _ _ _ => rfl⟩
theorem Fr.trans {S S' : Nat → Prop} {a b c : World} (h : Fr S a b) (k : Fr S' b c) (hS : ∀ i, i < a.heap.size → S' i → S i) : Fr S a c :=
 ⟨k.os.trans h.os, k.tape.trans h.tape, k.output.trans h.output, Nat.le_trans h.size k.size,
  fun i hi hn => (k.block i (Nat.lt_of_lt_of_le hi h.size) (fun hs => hn (hS i hi hs))).trans (h.block i hi hn)⟩
theorem Fr.mono {S S' : Nat → Prop} {a b : World} (h : Fr S a b) (hS : ∀ i, i < a.heap.size → S i → S' i) : Fr S' a b :=
 ⟨h.os, h.tape, h.output, h.size, fun i hi hn => h.block i hi (fun hs => hn (hS i hi hs))⟩
theorem Fr.of_below {w w' : World} (h : Below w.heap.size w w') (S : Nat → Prop) : Fr S w w' :=
 ⟨h.os, h.tape, h.output, h.size, fun k hk _ => h.block k hk⟩
theorem Fr.to_below {S : Nat → Prop} {w w' : World} (h : Fr S w w') {B : Nat} (hB : B ≤ w.heap.size) (hS : ∀ i, i < B → ¬ S i) : Below B w w' :=
 ⟨h.os, h.tape, h.output, h.size, fun k hk => h.block k (Nat.lt_of_lt_of_le hk hB) (hS k hk)⟩
theorem Fr.alloc {S : Nat → Prop} {a w : World} (h : Fr S a w) (o : Obj) : Fr S a (w.alloc o) :=
 ⟨h.os, h.tape, h.output, by have := h.size; simp; omega, fun k hk hn => (Below.heap_alloc w o k (Nat.lt_of_lt_of_le hk h.size)).trans (h.block k hk hn)⟩
theorem Fr.drew {S : Nat → Prop} {a w : World} (h : Fr S a w) : Fr S a w.drew := ⟨h.os, h.tape, h.output, h.size, h.block⟩
theorem Fr.drewN {S : Nat → Prop} {a w : World} (h : Fr S a w) (n : Nat) : Fr S a (w.drewN n) := ⟨h.os, h.tape, h.output, h.size, h.block⟩
theorem Fr.setCell {S : Nat → Prop} {a w : World} (h : Fr S a w) {p : Addr} (hp : p.block < a.heap.size → S p.block) (u : Value) : Fr S a (w.setCell p u) :=
 ⟨h.os, h.tape, h.output, by have := h.size; simp; omega, fun k hk hn => by
  by_cases e : k = p.block;· subst e; exact absurd (hp hk) hn
  · exact (Below.heap_setCell w p u k e).trans (h.block k hk hn)⟩
theorem Fr.blk {S : Nat → Prop} {w w' : World} (h : Fr S w w') {k : Nat} {o : Obj} (hb : w.heap[k]? = some o) (hn : ¬ S k) : w'.heap[k]? = some o :=
 (h.block k (Array.getElem?_eq_some_iff.1 hb).1 hn).trans hb
theorem Fr.cell {S : Nat → Prop} {w w' : World} (h : Fr S w w') {p : Addr} (hp : p.block < w.heap.size) (hn : ¬ S p.block) : w'.cell? p = w.cell? p :=
 World.cell?_of_block (w := w) (h.block p.block hp hn)
theorem Fr.frozen {S : Nat → Prop} {w w' : World} (h : Fr S w w') {p : Addr} (hp : p.block < w.heap.size) (hn : ¬ S p.block) : w'.frozen? p = w.frozen? p :=
 World.frozen?_of_block (w := w) (h.block p.block hp hn)
theorem Fr.cell' {S : Nat → Prop} {w w' : World} (h : Fr S w w') {p : Addr} {v : Value} (hc : w.cell? p = some v) (hn : ¬ S p.block) : w'.cell? p = some v :=
 (h.cell (World.block_lt_of_cell? w p hc) hn).trans hc
theorem Fr.frozen' {S : Nat → Prop} {w w' : World} (h : Fr S w w') {p : Addr} {v : Value} (hc : w.cell? p = some v) (hf : w.frozen? p = false) (hn : ¬ S p.block) : w'.frozen? p = false :=
 (h.frozen (World.block_lt_of_cell? w p hc) hn).trans hf
def NoB : Nat → Prop := fun _ => False
theorem Fr.below {w w' : World} (h : Fr NoB w w') : Below w.heap.size w w' := h.to_below (Nat.le_refl _) (fun _ _ hn => hn)
theorem blk_lt {w : World} {g : Nat} {o : Obj} (h : w.heap[g]? = some o) : g < w.heap.size := (Array.getElem?_eq_some_iff.1 h).1
theorem blk_cell {w : World} {g : Nat} {t : TypeId} {cs : Array Value} (h : w.heap[g]? = some (.cells cs t (0, 0))) (i : Nat) : w.cell? ⟨g, i, none⟩ = cs[i]? := by
 simp [World.cell?, h]
theorem blk_frozen {w : World} {g : Nat} {t : TypeId} {cs : Array Value} (h : w.heap[g]? = some (.cells cs t (0, 0))) (i : Nat) : w.frozen? ⟨g, i, none⟩ = false := by
 simp [World.frozen?, h]
theorem blk_set {w : World} {g : Nat} {t : TypeId} {cs : Array Value} (h : w.heap[g]? = some (.cells cs t (0, 0))) (i : Nat) (u : Value) :
 (w.setCell ⟨g, i, none⟩ u).heap[g]? = some (.cells (cs.setIfInBounds i u) t (0, 0)) := by
 have : g < w.heap.size := blk_lt h;simp only [World.setCell, Array.getElem?_modify];simp [h]
theorem blk_far {w : World} {g : Nat} {o : Obj} (h : w.heap[g]? = some o) {p : Addr} (hp : g ≠ p.block) (u : Value) : (w.setCell p u).heap[g]? = some o :=
 (Below.heap_setCell w p u g hp).trans h
theorem blk_alloc {w : World} {g : Nat} {o : Obj} (h : w.heap[g]? = some o) (o' : Obj) : (w.alloc o').heap[g]? = some o :=
 (Below.heap_alloc w o' g (blk_lt h)).trans h
theorem blk_new (w : World) (o : Obj) : (w.alloc o).heap[w.heap.size]? = some o := by
 show (w.heap.push o)[w.heap.size]? = some o;simp
end Go.Proofs.YteokhhepnoelhaaGreatDoor
namespace Go.Proofs
open Go.Shelf
def Tryz.lays125_ren : Go.Shelf.Ren := ⟨fun | 125 => 188 | 128 => 222 | 129 => 223 | n => n, fun | 46 => 36 | 3 => 3 | 51 => 52 | 53 => 112 | 4 => 4 | 5 => 5 | 9 => 9 | n => n, fun | n => n⟩
theorem Tryz.lays125 : Go.Proofs.Lays.n125 Tryz.prog Tryz.lays125_ren := {
 mixed := by kernel_rfl
 f125 := Tryz.func188.trans (congrArg some (by kernel_rfl))
 f128 := Tryz.func222.trans (congrArg some (by kernel_rfl))
 f129 := Tryz.func223.trans (congrArg some (by kernel_rfl))
 t3 := Tryz.underlying3
 a3 := Tryz.isAgg3
 z3 := Tryz.sizeOf3
 v3 := Tryz.zeroValue3
 t4 := Tryz.underlying4
 a4 := Tryz.isAgg4
 z4 := Tryz.sizeOf4
 v4 := Tryz.zeroValue4
 t5 := Tryz.underlying5
 a5 := Tryz.isAgg5
 z5 := Tryz.sizeOf5
 v5 := Tryz.zeroValue5
 t9 := Tryz.underlying9
 a9 := Tryz.isAgg9
 z9 := Tryz.sizeOf9
 v9 := Tryz.zeroValue9
 t46 := Tryz.underlying36
 a46 := Tryz.isAgg36
 z46 := Tryz.sizeOf36
 v46 := Tryz.zeroValue36
 t51 := Tryz.underlying52
 a51 := Tryz.isAgg52
 z51 := Tryz.sizeOf52
 v51 := Tryz.zeroValue52
 t53 := Tryz.underlying112
 a53 := Tryz.isAgg112
 z53 := Tryz.sizeOf112
 v53 := Tryz.zeroValue112 }
theorem Tryz.bits_Len (x : Int) (w : World) (h0 : 0 ≤ x) (h1 : x ≤ 18446744073709551615) :
 Calls Tryz.prog 188 #[.int .u64 x] w fun e w' => e = .returned (.int .i64 (Lib.bitLen x.toNat)) ∧ w' = w := Any.bits_Len Tryz.lays125 x w h0 h1
def Tryz.lays130_ren : Go.Shelf.Ren := ⟨fun | 130 => 276 | 125 => 188 | 128 => 222 | 129 => 223 | n => n, fun | 46 => 36 | 3 => 3 | 51 => 52 | 53 => 112 | 4 => 4 | 5 => 5 | 9 => 9 | n => n, fun | n => n⟩
theorem Tryz.lays130 : Go.Proofs.Lays.n130 Tryz.prog Tryz.lays130_ren := {
 mixed := by kernel_rfl
 f125 := Tryz.func188.trans (congrArg some (by kernel_rfl))
 f128 := Tryz.func222.trans (congrArg some (by kernel_rfl))
 f129 := Tryz.func223.trans (congrArg some (by kernel_rfl))
 f130 := Tryz.func276.trans (congrArg some (by kernel_rfl))
 t3 := Tryz.underlying3
 a3 := Tryz.isAgg3
 z3 := Tryz.sizeOf3
 v3 := Tryz.zeroValue3
 t4 := Tryz.underlying4
 a4 := Tryz.isAgg4
 z4 := Tryz.sizeOf4
 v4 := Tryz.zeroValue4
 t5 := Tryz.underlying5
 a5 := Tryz.isAgg5
 z5 := Tryz.sizeOf5
 v5 := Tryz.zeroValue5
 t9 := Tryz.underlying9
 a9 := Tryz.isAgg9
 z9 := Tryz.sizeOf9
 v9 := Tryz.zeroValue9
 t46 := Tryz.underlying36
 a46 := Tryz.isAgg36
 z46 := Tryz.sizeOf36
 v46 := Tryz.zeroValue36
 t51 := Tryz.underlying52
 a51 := Tryz.isAgg52
 z51 := Tryz.sizeOf52
 v51 := Tryz.zeroValue52
 t53 := Tryz.underlying112
 a53 := Tryz.isAgg112
 z53 := Tryz.sizeOf112
 v53 := Tryz.zeroValue112 }
theorem Tryz.bits_LeadingZeros (x : Int) (w : World) (h0 : 0 ≤ x) (h1 : x ≤ 18446744073709551615) :
 Calls Tryz.prog 276 #[.int .u64 x] w fun e w' => e = .returned (.int .i64 (64 - (Lib.bitLen x.toNat : Int))) ∧ w' = w := Any.bits_LeadingZeros Tryz.lays130 x w h0 h1
open Go.RowKit Go.Lib in
def Tryz.lays212_ren : Go.Shelf.Ren := ⟨fun | 212 => 292 | 263 => 313 | 264 => 314 | n => n, fun | 46 => 36 | 51 => 52 | 146 => 309 | 53 => 112 | 148 => 311 | n => n, fun | n => n⟩
theorem Tryz.lays212 : Go.Proofs.Lays.n212 Tryz.prog Tryz.lays212_ren := {
 mixed := by kernel_rfl
 f212 := Tryz.func292.trans (congrArg some (by kernel_rfl))
 f263 := Tryz.func313.trans (congrArg some (by kernel_rfl))
 f264 := Tryz.func314.trans (congrArg some (by kernel_rfl))
 t46 := Tryz.underlying36
 a46 := Tryz.isAgg36
 z46 := Tryz.sizeOf36
 v46 := Tryz.zeroValue36
 t51 := Tryz.underlying52
 a51 := Tryz.isAgg52
 z51 := Tryz.sizeOf52
 v51 := Tryz.zeroValue52
 t53 := Tryz.underlying112
 a53 := Tryz.isAgg112
 z53 := Tryz.sizeOf112
 v53 := Tryz.zeroValue112
 t146 := Tryz.underlying309
 a146 := Tryz.isAgg309
 z146 := Tryz.sizeOf309
 v146 := Tryz.zeroValue309
 t148 := Tryz.underlying311
 a148 := Tryz.isAgg311
 z148 := Tryz.sizeOf311
 v148 := Tryz.zeroValue311 }
open Go.RowKit Go.Lib in
theorem Tryz.bits_Mul (x y : Nat) (hx : x < 18446744073709551616) (hy : y < 18446744073709551616) (w : World) :
 Calls Tryz.prog 292 #[.int .u64 x, .int .u64 y] w fun e w' => e = .returned (.tuple #[.int .u64 ((x * y / 18446744073709551616 : Nat) : Int), .int .u64 ((x * y % 18446744073709551616 : Nat) : Int)]) ∧ w' = w := Any.bits_Mul Tryz.lays212 x y hx hy w
end Go.Proofs
namespace Go.Proofs.YteokhhepnoelhaaGreatDoor
open Go.RowKit
theorem run_add64_here (x y c : Nat) (hc : c ≤ 1) (w : World) :
 (callFunc 267 #[.int .u64 x, .int .u64 y, .int .u64 c]).run Tryz.prog w =
  .ok (.value (.tuple #[.int .u64 (((x + y + c) % 18446744073709551616 : Nat) : Int), .int .u64 (((x + y + c) / 18446744073709551616 : Nat) : Int)])) w := by
 rw [run_callFunc_extern Tryz.func267 (by kernel_rfl) (by kernel_rfl) (by kernel_rfl) (e := add64Entry) (by kernel_rfl), run_add64 x y c (by omega) (by omega) (by omega) (by omega)];simp only [Result.andThen];congr 5 <;> omega
theorem bitsAdd (x y c : Nat) (hc : c ≤ 1) (w : World) :
 Calls Tryz.prog 236 #[.int .u64 x, .int .u64 y, .int .u64 c] w fun e w' => e = .returned (.tuple #[.int .u64 (((x + y + c) % 18446744073709551616 : Nat) : Int), .int .u64 (((x + y + c) / 18446744073709551616 : Nat) : Int)]) ∧ w = w' := by
 have hr := fun w => run_add64_here x y c hc w
 generalize ((x + y + c) % 18446744073709551616) = s at *
 generalize ((x + y + c) / 18446744073709551616) = q at *
 go_enter Tryz.func236, Tryz.ntmps236;go_wp2
 go_ret2;exact ⟨rfl, rfl⟩
def WB : Nat := 18446744073709551616
theorem WB_eq : WB = 18446744073709551616 := rfl
theorem WB_pos : 0 < WB := by decide
theorem mulAddWWW_sum (x y c : Nat) (hx : x < WB) (hy : y < WB) (hc : c < WB) :
 x * y / WB + (x * y % WB + c + 0) / WB = (x * y + c) / WB ∧ (x * y % WB + c + 0) % WB = (x * y + c) % WB ∧ (x * y + c) / WB < WB := by
 have hle : x * y ≤ (WB - 1) * (WB - 1) := Nat.mul_le_mul (by omega) (by omega);have hW := WB_pos;have e : x * y = WB * (x * y / WB) + x * y % WB := (Nat.div_add_mod _ _).symm;generalize x * y / WB = q at *
 generalize x * y % WB = r at *
 refine ⟨?_, ?_, ?_⟩;· rw [e, Nat.add_zero, Nat.add_assoc, Nat.mul_add_div hW]
 · rw [e, Nat.add_zero, Nat.add_assoc, Nat.mul_add_mod]
 · rw [Nat.div_lt_iff_lt_mul hW];have : (WB - 1) * (WB - 1) + WB ≤ WB * WB := by
    have : WB * WB = (WB - 1) * (WB - 1) + 2 * WB - 1 := by decide
    omega
   omega
theorem mulAddWWW (x y c : Nat) (hx : x < WB) (hy : y < WB) (hc : c < WB) (w : World) :
 Calls Tryz.prog 295 #[.int .u64 x, .int .u64 y, .int .u64 c] w fun e w' => e = .returned (.tuple #[.int .u64 (((x * y + c) / WB : Nat) : Int), .int .u64 (((x * y + c) % WB : Nat) : Int)]) ∧ w = w' := by
 obtain ⟨e1, e2, e3⟩ := mulAddWWW_sum x y c hx hy hc;have M := hid (Tryz.bits_Mul x y hx hy w);have A := hid (bitsAdd (x * y % WB) c 0 (by omega) w);simp only [← WB_eq] at M A;rw [← e1, ← e2];rw [← e1] at e3;clear e1 e2;generalize x * y / WB = hi at *
 generalize x * y % WB = lo at *
 generalize (lo + c + 0) % WB = s at *
 generalize (lo + c + 0) / WB = q at *
 have e4 : 0 ≤ (hi : Int) + (q : Int) ∧ (hi : Int) + (q : Int) ≤ 18446744073709551615 := by rw [WB_eq] at e3; omega
 clear e3;have W1 : IntKind.u64.wrap ((hi : Int) + (q : Int)) = ((hi + q : Nat) : Int) := by
  rw [IntWalk.u64_in _ (by omega)]; omega
 have HW := hid W1;clear e4 W1;go_enter Tryz.func295, Tryz.ntmps295;go_wp2_with fail;refine M.out.mono fun e w' ⟨he, hw⟩ => ?_
 subst he; subst hw;go_wp2_with fail;refine A.out.mono fun e w' ⟨he, hw⟩ => ?_
 subst he; subst hw;go_wp2_with fail;go_ret2;exact ⟨by rw [HW.out]; rfl, rfl⟩
def putV (cs : Array Value) (o : Nat) : List Value → Array Value
 | [] => cs
 | v :: vs => putV (cs.setIfInBounds o v) (o + 1) vs
theorem putV_size (vs : List Value) : ∀ (cs : Array Value) (o : Nat), (putV cs o vs).size = cs.size := by
 induction vs with
 | nil => intro cs o; rfl
 | cons v vs ih => intro cs o; rw [putV, ih]; simp
theorem putV_snoc (vs : List Value) (v : Value) : ∀ (cs : Array Value) (o : Nat), putV cs o (vs ++ [v]) = (putV cs o vs).setIfInBounds (o + vs.length) v := by
 induction vs with
 | nil => intro cs o; simp [putV]
 | cons u vs ih =>
  intro cs o;rw [List.cons_append, putV, ih, putV];congr 1
  simp; omega
theorem putV_get_out (vs : List Value) : ∀ (cs : Array Value) (o i : Nat), (i < o ∨ o + vs.length ≤ i) → (putV cs o vs)[i]? = cs[i]? := by
 induction vs with
 | nil => intro cs o i _; rfl
 | cons v vs ih =>
  intro cs o i h;rw [List.length_cons] at h;rw [putV, ih _ _ _ (by omega), Array.getElem?_setIfInBounds, if_neg (by omega)]
theorem putV_get_in (vs : List Value) : ∀ (cs : Array Value) (o i : Nat), o + vs.length ≤ cs.size → i < vs.length → (putV cs o vs)[o + i]? = vs[i]? := by
 induction vs with
 | nil => intro cs o i _ h; simp at h
 | cons v vs ih =>
  intro cs o i h hi;rw [List.length_cons] at h hi;rw [putV];cases i with
  | zero =>
   rw [putV_get_out _ _ _ _ (.inl (by omega)), Nat.add_zero, Array.getElem?_setIfInBounds, if_pos rfl, if_pos (by omega)];rfl
  | succ i =>
   rw [show o + (i + 1) = (o + 1) + i by omega, ih _ _ _ (by simp; omega) (by omega)];rfl
theorem putV_append (us vs : List Value) : ∀ (cs : Array Value) (o : Nat), putV cs o (us ++ vs) = putV (putV cs o us) (o + us.length) vs := by
 induction us with
 | nil => intro cs o; simp [putV]
 | cons u us ih =>
  intro cs o;rw [List.cons_append, putV, ih, putV];congr 1
  simp; omega
def u64s (xs : List Nat) : List Value := xs.map fun (x : Nat) => Value.int .u64 (x : Int)
theorem u64s_length (xs : List Nat) : (u64s xs).length = xs.length := by simp [u64s]
theorem u64s_get (xs : List Nat) (i : Nat) : (u64s xs)[i]? = xs[i]?.map fun (x : Nat) => Value.int .u64 (x : Int) := by simp [u64s]
theorem u64s_append (xs ys : List Nat) : u64s (xs ++ ys) = u64s xs ++ u64s ys := by simp [u64s]
theorem add_plain (g o j : Nat) : (⟨g, o, none⟩ : Addr).add j = ⟨g, o + j, none⟩ := by unfold Addr.add; split <;> simp_all
def mulAddZ : List Nat → Nat → Nat → List Nat
 | [], _, _ => []
 | x :: xs, y, c => (x * y + c) % WB :: mulAddZ xs y ((x * y + c) / WB)
def mulAddC : List Nat → Nat → Nat → Nat
 | [], _, c => c
 | x :: xs, y, c => mulAddC xs y ((x * y + c) / WB)
theorem mulAddZ_length (xs : List Nat) : ∀ (y c : Nat), (mulAddZ xs y c).length = xs.length := by
 induction xs with
 | nil => intro y c; rfl
 | cons x xs ih => intro y c; simp [mulAddZ, ih]
theorem mulAddC_snoc (xs : List Nat) (x y : Nat) : ∀ c, mulAddC (xs ++ [x]) y c = (x * y + mulAddC xs y c) / WB := by
 induction xs with
 | nil => intro c; rfl
 | cons u xs ih => intro c; simp [mulAddC, ih]
theorem mulAddZ_snoc (xs : List Nat) (x y : Nat) : ∀ c, mulAddZ (xs ++ [x]) y c = mulAddZ xs y c ++ [(x * y + mulAddC xs y c) % WB] := by
 induction xs with
 | nil => intro c; rfl
 | cons u xs ih => intro c; simp [mulAddZ, mulAddC, ih]
theorem carry_lt {x y c : Nat} (hx : x < WB) (hy : y < WB) (hc : c < WB) : (x * y + c) / WB < WB := by
 rw [← (mulAddWWW_sum x y c hx hy hc).1]; rw [(mulAddWWW_sum x y c hx hy hc).1]; exact (mulAddWWW_sum x y c hx hy hc).2.2
theorem mulAddC_lt (xs : List Nat) (y : Nat) (hy : y < WB) : ∀ c, c < WB → (∀ x ∈ xs, x < WB) → mulAddC xs y c < WB := by
 induction xs with
 | nil => intro c hc _; exact hc
 | cons x xs ih =>
  intro c hc h;exact ih _ (carry_lt (h x (by simp)) hy hc) (fun u hu => h u (by simp [hu]))
set_option maxHeartbeats 1000000 in
theorem mulAddVWW (gz oz cz gx ox cx : Nat) (csz : Array Value) (xs : List Nat) (y r : Nat) (w : World)
 (hz : w.heap[gz]? = some (.cells csz 105 (0, 0))) (hzn : oz + xs.length ≤ csz.size)
 (hx : ∀ (j x : Nat), xs[j]? = some x → w.cell? ⟨gx, ox + j, none⟩ = some (.int .u64 (x : Int))) (hax : gx = gz → ox = oz)
 (hb : ∀ x ∈ xs, x < WB) (hy : y < WB) (hr : r < WB) (hlen : xs.length ≤ 1000000) :
 Calls Tryz.prog 217 #[.slice (some ⟨gz, oz, none⟩) xs.length cz, .slice (some ⟨gx, ox, none⟩) xs.length cx, .int .u64 (y : Int), .int .u64 (r : Int)] w
  fun e w' => e = .returned (.int .u64 (mulAddC xs y r : Int)) ∧ w'.heap[gz]? = some (.cells (putV csz oz (u64s (mulAddZ xs y r))) 105 (0, 0)) ∧ Fr (fun i => i = gz) w w' := by
 have HZ := hid hz; have HX := hid hx; have HA := hid hax; have HB := hid hb; have HY := hid hy; have HR := hid hr;clear hz hx hax hb hy hr;go_enter Tryz.func217, Tryz.ntmps217;go_wp2
 go_loopw [8, 19] (fun c i wr => ∃ k : Nat, k ≤ xs.length ∧ i = .int .i64 k ∧ c = .int .u64 (mulAddC (xs.take k) y r : Nat) ∧ wr.heap[gz]? = some (.cells (putV csz oz (u64s (mulAddZ (xs.take k) y r))) 105 (0, 0)) ∧ Fr (fun i => i = gz) w wr) (fun _ i _ => xs.length - (intOf i).toNat);case atStart => exact ⟨0, Nat.zero_le _, rfl, rfl, by simpa [mulAddZ, putV, u64s] using HZ.out, Fr.refl _ _⟩
 case round =>
  obtain ⟨k, hk, rfl, rfl, hwr, hF⟩ := hrel;by_cases hlt : k < xs.length
  · obtain ⟨x, hxk⟩ : ∃ x, xs[k]? = some x := ⟨xs[k], List.getElem?_eq_getElem hlt⟩
    have htk : xs.take (k + 1) = xs.take k ++ [x] := by
     rw [List.take_add_one, hxk]; rfl
    have hxb : x < WB := HB.out x (List.mem_of_getElem? hxk);have hcb : mulAddC (xs.take k) y r < WB := mulAddC_lt _ _ HY.out _ HR.out (fun u hu => HB.out u (List.mem_of_mem_take hu));have hlk : (u64s (mulAddZ (xs.take k) y r)).length = k := by rw [u64s_length, mulAddZ_length, List.length_take, Nat.min_eq_left hk]
    have hsz : (putV csz oz (u64s (mulAddZ (xs.take k) y r))).size = csz.size := putV_size _ _ _;have hcell : wr.cell? ⟨gx, ox + k, none⟩ = some (.int .u64 (x : Int)) := by
     by_cases e : gx = gz;· have ho := HA.out e;subst e; subst ho;rw [blk_cell hwr, putV_get_out _ _ _ _ (.inr (by omega)), ← blk_cell HZ.out];exact HX.out k x hxk
     · exact hF.cell' (HX.out k x hxk) e
    obtain ⟨v0, hv0⟩ : ∃ v, (putV csz oz (u64s (mulAddZ (xs.take k) y r)))[oz + k]? = some v := ⟨_, Array.getElem?_eq_getElem (by omega)⟩
    have hold : wr.cell? ⟨gz, oz + k, none⟩ = some v0 := by rw [blk_cell hwr]; exact hv0
    have hfz : wr.frozen? ⟨gz, oz + k, none⟩ = false := blk_frozen hwr _;have hset := blk_set hwr (oz + k) (.int .u64 (((x * y + mulAddC (xs.take k) y r) % WB : Nat) : Int));have hput : (putV csz oz (u64s (mulAddZ (xs.take k) y r))).setIfInBounds (oz + k) (.int .u64 (((x * y + mulAddC (xs.take k) y r) % WB : Nat) : Int)) = putV csz oz (u64s (mulAddZ (xs.take (k + 1)) y r)) := by
     rw [htk, mulAddZ_snoc, u64s_append, show u64s [(x * y + mulAddC (xs.take k) y r) % WB] = [.int .u64 (((x * y + mulAddC (xs.take k) y r) % WB : Nat) : Int)] from rfl, putV_snoc, hlk]
    rw [hput] at hset;have hcn : mulAddC (xs.take (k + 1)) y r = (x * y + mulAddC (xs.take k) y r) / WB := by rw [htk, mulAddC_snoc]
    have HSET := hid hset; have HCN := hid hcn; have HF := hid hF;have M := hid (mulAddWWW x y (mulAddC (xs.take k) y r) hxb HY.out hcb);clear hset hcn hput hwr hF hsz hlk hv0 htk hxk hxb hcb;generalize mulAddC (xs.take k) y r = c at *
    generalize (x * y + c) % WB = lo at *
    generalize (x * y + c) / WB = hi at *
    go_wp2_with (go_at_call 295; refine (M.out _).mono ?_; rintro e w2 ⟨rfl, rfl⟩);go_roundw;case rel => exact ⟨k + 1, by omega, by go_num, by rw [HCN.out], HSET.out, HF.out.setCell (fun _ => rfl) _⟩
    case measure => simp [intOf]; omega
  · obtain rfl : k = xs.length := by omega
    rw [List.take_length] at *
    have HW := hid hwr; have HF := hid hF;clear hwr hF;go_wp2
    go_ret;exact ⟨rfl, HW.out, HF.out⟩
end Go.Proofs.YteokhhepnoelhaaGreatDoor
