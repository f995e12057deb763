/-
  From setString's failure up to impl.Parse.
-/
import Derived.Test.YteokhhepnoelhaaGreatDoorPlainFails
import Derived.Test.YteokhhepnoelhaaGreatDoorSpec2
set_option linter.unusedVariables false
set_option linter.unusedSimpArgs false
namespace Go.Proofs.YteokhhepnoelhaaGreatDoor
open Go.RowKit

/-- What the laid variables hold. -/
structure Vars (w : World) (a : Addr) (tpS tpR : TypeId) (pS pR : Value) (r : ByteArray) : Prop where
  ctx : CtxAt w 0 0 100000 (-100000) 1967 r
  cse : Lib.CaseVar 1 Lib.caseA w
  u8 : Lib.Utf8Tabs 6 7 w
  eof : EofAt w a
  eS : w.var? Tryz.prog "strconv.ErrSyntax" = some #[.iface tpS pS]
  eR : w.var? Tryz.prog "strconv.ErrRange" = some #[.iface tpR pR]

theorem ctxSetString_fail (D cb : Nat) (l : List UInt8) (w : World) (hS : Calls Tryz.prog 41 #[.pointer (some ⟨D, 0, none⟩), .pointer (some ⟨cb, 0, none⟩), .string ⟨l.toArray⟩] w (FailEnd w D)) :
    Calls Tryz.prog 30 #[.pointer (some ⟨cb, 0, none⟩), .pointer (some ⟨D, 0, none⟩), .string ⟨l.toArray⟩] w
      fun e w' => (∃ p, e = .returned (.tuple #[.pointer none, .int .u32 0, .iface 147 (.pointer (some p))])) ∧ Fr (fun i => i = D) w w' := by
  have HS := hid hS
  clear hS
  go_enter Tryz.func30, Tryz.ntmps30
  go_wp2_with fail
  refine HS.out.mono ?_
  rintro e w1 ⟨⟨p, rfl⟩, hF1⟩
  have HF1 := hid hF1
  clear hF1
  go_wp2_with fail
  go_ret3
  exact ⟨⟨_, rfl⟩, HF1.out⟩

set_option maxRecDepth 100000 in
set_option maxHeartbeats 1000000 in
theorem parse_fail (l : List UInt8) (w : World)
    (hS : ∀ (D : Nat) (w1 : World), DecAt w1 D 0 false 0 false (.slice none 0 0) false → Fr NoB w w1 → w.heap.size ≤ D → Calls Tryz.prog 41 #[.pointer (some ⟨D, 0, none⟩), .pointer (some ⟨0, 0, none⟩), .string ⟨l.toArray⟩] w1 (FailEnd w1 D)) :
    Calls Tryz.prog 9 #[.string ⟨l.toArray⟩] w
      fun e w' => e = .returned (.tuple #[.agg #[.int .i64 0, .bool false, .slice none 0 0, .int .i64 0], .int .i64 0, .bool false]) ∧ Fr NoB w w' := by
  have HS := hid hS
  clear hS
  go_enter Tryz.func9, Tryz.ntmps9
  go_wp2_with (first | (go_at_call 23; go_in) | (go_at_call 37; go_in))
  have hR0 : ((w.alloc (.cells #[.int .i64 0, .bool false, .slice none 0 0, .int .i64 0] 30)).alloc (.cells #[.int .i8 0, .bool false, .int .i32 0, .bool false, .slice none 0 0, .bool false] 72)).heap[w.heap.size]? = some (.cells #[.int .i64 0, .bool false, .slice none 0 0, .int .i64 0] 30 (0, 0)) :=
    blk_alloc (blk_new w _) _
  have hD0 : DecAt ((w.alloc (.cells #[.int .i64 0, .bool false, .slice none 0 0, .int .i64 0] 30)).alloc (.cells #[.int .i8 0, .bool false, .int .i32 0, .bool false, .slice none 0 0, .bool false] 72)) (w.heap.size + 1) 0 false 0 false (.slice none 0 0) false := by
    have := blk_new (w.alloc (.cells #[.int .i64 0, .bool false, .slice none 0 0, .int .i64 0] 30)) (.cells #[.int .i8 0, .bool false, .int .i32 0, .bool false, .slice none 0 0, .bool false] 72 (0, 0))
    rw [World.size_alloc] at this
    exact this
  have hF0 : Fr NoB w ((w.alloc (.cells #[.int .i64 0, .bool false, .slice none 0 0, .int .i64 0] 30)).alloc (.cells #[.int .i8 0, .bool false, .int .i32 0, .bool false, .slice none 0 0, .bool false] 72)) :=
    ((Fr.refl _ _).alloc _).alloc _
  have HR0 := hid hR0; have HD0 := hid hD0; have HF0 := hid hF0
  clear hR0 hD0 hF0
  generalize hW : ((w.alloc (.cells #[.int .i64 0, .bool false, .slice none 0 0, .int .i64 0] 30)).alloc (.cells #[.int .i8 0, .bool false, .int .i32 0, .bool false, .slice none 0 0, .bool false] 72)) = W at *
  clear hW
  refine (ctxSetString_fail (w.heap.size + 1) 0 l W (HS.out _ _ HD0.out HF0.out (by omega))).mono ?_
  rintro e w1 ⟨⟨p, rfl⟩, hF1⟩
  have hR1 := hF1.blk HR0.out (by omega)
  have HF1 := hid ((HF0.out.trans hF1 (fun i hi h => by omega) : Fr NoB w w1))
  have r0 := blk_cell hR1 0; have r1 := blk_cell hR1 1; have r2 := blk_cell hR1 2; have r3 := blk_cell hR1 3
  have g0 := blk_frozen hR1 0; have g1 := blk_frozen hR1 1; have g2 := blk_frozen hR1 2; have g3 := blk_frozen hR1 3
  clear hF1 hR1
  simp only [List.getElem?_toArray, List.getElem?_cons_zero, List.getElem?_cons_succ] at r0 r1 r2 r3
  go_wp2_with (go_at_call 24; refine (conditions_0 _).mono ?_; rintro e w3 ⟨rfl, rfl⟩)
  refine bodyPost_ret (v := .tuple #[.agg #[.int .i64 0, .bool false, .slice none 0 0, .int .i64 0], .int .i64 0, .bool false]) (by simp [results, Tryz.results9, go_sem, r0, r1, r2, r3]) rfl ⟨rfl, ?_⟩
  have hS : ∀ i, w.heap.size ≤ i → i < w.heap.size → NoB i := fun i h h' => by omega
  exact (((HF1.out.setCell (fun h => hS _ (Nat.le_refl _) h) _).setCell (fun h => hS _ (Nat.le_refl _) h) _).setCell (fun h => hS _ (Nat.le_refl _) h) _).setCell (fun h => hS _ (Nat.le_refl _) h) _

theorem var_keep {w w' : World} {n : String} {g : Nat} {cs : Array Value} (hg : Tryz.prog.globalNamed n = some g) (hb : Below w.heap.size w w') (hlt : g < w.heap.size) (hv : w.var? Tryz.prog n = some cs) : w'.var? Tryz.prog n = some cs := by
  unfold World.var? at hv ⊢
  simp only [hg, Option.bind_some] at hv ⊢
  rw [hb.block g hlt]
  exact hv

theorem Vars.below {w w' : World} {a : Addr} {tpS tpR : TypeId} {pS pR : Value} {r : ByteArray} (h : Vars w a tpS tpR pS pR r) (hb : Below w.heap.size w w') : Vars w' a tpS tpR pS pR r := by
  have h5 : 5 < w.heap.size := h.eof.lt
  have hF : Fr NoB w w' := Fr.of_below hb _
  exact ⟨h.ctx.fr hF (fun h => h), Lib.CaseVar_below h.cse hb, Utf8Tabs_below h.u8 hb, hF.cell' h.eof (fun h => h),
    var_keep (n := "strconv.ErrSyntax") (g := 2) (by kernel_rfl) hb (by omega) h.eS, var_keep (n := "strconv.ErrRange") (g := 3) (by kernel_rfl) hb (by omega) h.eR⟩

theorem lowerAt (D : Nat) (n0 : Bool) (l : List UInt8) (w0 w : World) {a : Addr} {tpS tpR : TypeId} {pS pR : Value} {r : ByteArray} (hV : Vars w0 a tpS tpR pS pR r) (hF : Fr NoB w0 w) (hD : w0.heap.size ≤ D) (hl : l.length ≤ 1000) :
    LowerAt w D l (Lib.toLowerD (unsign l)) := by
  unfold LowerAt
  have hF2 : Fr (fun i => i = D) w0 (w.setCell ⟨D, 1, none⟩ (.bool (Lib.hasPrefix l [45]))) := (hF.mono (S' := fun i => i = D) (fun _ _ h => h.elim)).setCell (p := ⟨D, 1, none⟩) (fun _ => rfl) _
  have hV2 := hV.below (hF2.to_below (Nat.le_refl _) (fun i hi h => by have : i = D := h; omega))
  have hul := unsign_len l
  exact (Tryz.strings_ToLower_any ⟨(unsign l).toArray⟩ _ (by rw [str_size]; omega) hV2.cse hV2.u8).mono fun e w' ⟨he, hb⟩ => ⟨he, Fr.of_below hb _⟩

/-- setString fails at a text that the law's guards let in. -/
theorem setString_bad (D : Nat) (l : List UInt8) (w0 w : World) {a : Addr} {tpS tpR : TypeId} {pS pR : Value} {r : ByteArray} (hV : Vars w0 a tpS tpR pS pR r) (hF : Fr NoB w0 w) (hDg : w0.heap.size ≤ D) (hl : l.length ≤ 60)
    (hD : DecAt w D 0 false 0 false (.slice none 0 0) false) (hn : ∀ b ∈ l, b.toNat ≠ 110 ∧ b.toNat ≠ 78) (hg : (∃ b ∈ l, OddB b) ∨ ∀ b ∈ l, ¬ figB b) :
    Calls Tryz.prog 41 #[.pointer (some ⟨D, 0, none⟩), .pointer (some ⟨0, 0, none⟩), .string ⟨l.toArray⟩] w (FailEnd w D) := by
  have hT := lowerAt D false l w0 w hV hF hDg (by omega)
  have h5 := hV.eof.lt
  cases hs1 : Lib.hasPrefix (Lib.toLowerD (unsign l)) [45] with
  | true => exact setString_sign D 0 false l _ w hD hT (by omega) (.inl hs1)
  | false =>
    cases hs2 : Lib.hasPrefix (Lib.toLowerD (unsign l)) [43] with
    | true => exact setString_sign D 0 false l _ w hD hT (by omega) (.inr hs2)
    | false =>
      have hVx : ∀ wx, Fr (fun i => i = D) w wx → Vars wx a tpS tpR pS pR r := fun wx hx =>
        hV.below (((hF.mono (S' := fun i => i = D) (fun _ _ h => h.elim)).trans hx (fun _ _ h => h)).to_below (Nat.le_refl _) (fun i hi h => by have : i = D := h; omega))
      have hul := unsign_len l
      have hll := lower_len _ (unsign l) (Nat.le_refl _)
      have hRN := reads_none l hg
      refine (setString_num D 0 false l _ w hD hT (by omega) hs1 hs2 (no_n l hn) (by omega) tpS tpR pS pR (fun wx hx => (hVx wx hx).eS) (fun wx hx => (hVx wx hx).eR) (by omega) a (hVx w (Fr.refl _ _)).eof ?_).mono ?_
      · intro ds es v X w1 h
        rw [hRN] at h
        cases h
      · intro e w' h
        unfold NumEnd at h
        rw [hRN] at h
        exact h

/-- impl.Parse at such a text: none. -/
theorem parse_bad (l : List UInt8) (w : World) {a : Addr} {tpS tpR : TypeId} {pS pR : Value} {r : ByteArray} (hV : Vars w a tpS tpR pS pR r) (hl : l.length ≤ 60)
    (hn : ∀ b ∈ l, b.toNat ≠ 110 ∧ b.toNat ≠ 78) (hg : (∃ b ∈ l, OddB b) ∨ ∀ b ∈ l, ¬ figB b) :
    Calls Tryz.prog 9 #[.string ⟨l.toArray⟩] w
      fun e w' => e = .returned (.tuple #[.agg #[.int .i64 0, .bool false, .slice none 0 0, .int .i64 0], .int .i64 0, .bool false]) ∧ Fr NoB w w' :=
  parse_fail l w (fun D w1 hD hF hge => setString_bad D l w w1 hV hF hge hl hD hn hg)
end Go.Proofs.YteokhhepnoelhaaGreatDoor
