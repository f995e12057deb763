/-
  A decimal is read from each of its texts but f as it was: the tied card of laws.FnBack, for every decimal and letter. The listed package variables hold what the program's text lays (the given tie).
-/
import Derived.Test.YteokhhepnoelhaaGreatDoorBkD
import Derived.ProofKit
import Derived.Lib.LaidU8
import Derived.KernelRfl
import Derived.Test.YteokhhepnoelhaaGreatDoorRows
import Derived.OpenVars
import Derived.Test.YteokhhepnoelhaaGreatDoorSqr
import Derived.PinnedBridge
import Derived.Lib.LaidCase
import Derived.Stop.LaidErr
import Derived.Test.YteokhhepnoelhaaGreatDoorBkE
import Derived.Lay
import Derived.MakeChecks
import Derived.ChangeMaps5
import Derived.ChangeSlices
import Derived.ChangeArms
import Derived.Carry
import Derived.Lib.LaidTab
import Derived.JoinedOf
import Derived.Test.YteokhhepnoelhaaGreatDoorCards
import Derived.Test.YteokhhepnoelhaaGreatDoorTie
import Derived.SevenTiedAt

set_option linter.unusedVariables false
set_option linter.unusedSimpArgs false
namespace Go.Proofs.YteokhhepnoelhaaGreatDoor
open Go.RowKit

def baseData : DataW Unit := .agg [.lit (.int .u32 0), .lit (.int .i32 100000), .lit (.int .i32 (-100000)), .lit (.int .u32 1967), .lit (.string [])]

theorem Tryz.ctxName : Tryz.prog.globalNamed "loop.example/pub-g03241/pub/apd.BaseContext" = some 0 := by kernel_rfl
theorem Tryz.ctxType : (Tryz.prog.globals[0]?).map (·.type) = some 85 := by kernel_rfl
theorem Tryz.ctxFields : ∃ f0 f1 f2 f3 f4 : Field, Tryz.prog.underlying 85 = some (.struct #[f0, f1, f2, f3, f4]) ∧ (f0.type = 52 ∧ f0.offset = 0) ∧ (f1.type = 21 ∧ f1.offset = 1) ∧ (f2.type = 21 ∧ f2.offset = 2) ∧ (f3.type = 53 ∧ f3.offset = 3) ∧ (f4.type = 83 ∧ f4.offset = 4) :=
  ⟨_, _, _, _, _, Tryz.underlying85, ⟨rfl, rfl⟩, ⟨rfl, rfl⟩, ⟨rfl, rfl⟩, ⟨rfl, rfl⟩, ⟨rfl, rfl⟩⟩
theorem Tryz.c85 : Tryz.prog.cellsOf 85 = 5 := by kernel_rfl
theorem Tryz.c52 : Tryz.prog.cellsOf 52 = 1 := by kernel_rfl
theorem Tryz.c21 : Tryz.prog.cellsOf 21 = 1 := by kernel_rfl
theorem Tryz.c53 : Tryz.prog.cellsOf 53 = 1 := by kernel_rfl
theorem Tryz.c83 : Tryz.prog.cellsOf 83 = 1 := by kernel_rfl

theorem lit_int {k : IntKind} {n m : Int} {xs : List (DataW Unit × List MemPlace)} {i : Nat} {q : List MemPlace} (h : some (DataW.lit (.int k n), q) = xs[i]?) (hx : (xs.map (·.1))[i]? = some (.lit (.int k m))) : n = m := by
  rw [List.getElem?_map, ← h] at hx
  simpa using hx

theorem ctx_of_reads {w : World} (h : Lib.VarReads Tryz.prog w "loop.example/pub-g03241/pub/apd.BaseContext" baseData) : CtxAt w 0 0 100000 (-100000) 1967 ⟨#[]⟩ := by
  obtain ⟨g, t, cs, fuel, p, hg, hty, hvar, hd⟩ := h
  obtain rfl := Option.some.inj (Tryz.ctxName.symm.trans hg)
  obtain rfl := Option.some.inj (Tryz.ctxType.symm.trans hty)
  obtain ⟨f0, f1, f2, f3, f4, hu, ⟨a0, b0⟩, ⟨a1, b1⟩, ⟨a2, b2⟩, ⟨a3, b3⟩, ⟨a4, b4⟩⟩ := Tryz.ctxFields
  obtain ⟨xs, n, _, hx, hl, _, hf⟩ := DataW.trod_struct hu hd
  rw [Tryz.c85] at hl
  have e := congrArg Prod.fst hx
  simp only [baseData, DataW.agg.injEq] at e
  have k0 := hf 0 f0 rfl; have k1 := hf 1 f1 rfl; have k2 := hf 2 f2 rfl; have k3 := hf 3 f3 rfl; have k4 := hf 4 f4 rfl
  rw [a0, b0, Tryz.c52] at k0; rw [a1, b1, Tryz.c21] at k1; rw [a2, b2, Tryz.c21] at k2; rw [a3, b3, Tryz.c53] at k3; rw [a4, b4, Tryz.c83] at k4
  have hcell : ∀ i v, cs.toList[i]? = some v → w.cell? ⟨0, i, none⟩ = some v := fun i v hi => by
    rw [World.var?_cell Tryz.ctxName hvar i, ← Array.getElem?_toList]; exact hi
  match hcs : cs.toList, hl with
  | [v0, v1, v2, v3, v4], _ =>
    rw [hcs] at k0 k1 k2 k3 k4 hcell
    have g0 : ∃ y, xs[0]? = some y := by rw [← Option.isSome_iff_exists]; have := congrArg (fun l => (l[0]?).isSome) e; simpa using this.symm
    have g1 : ∃ y, xs[1]? = some y := by rw [← Option.isSome_iff_exists]; have := congrArg (fun l => (l[1]?).isSome) e; simpa using this.symm
    have g2 : ∃ y, xs[2]? = some y := by rw [← Option.isSome_iff_exists]; have := congrArg (fun l => (l[2]?).isSome) e; simpa using this.symm
    have g3 : ∃ y, xs[3]? = some y := by rw [← Option.isSome_iff_exists]; have := congrArg (fun l => (l[3]?).isSome) e; simpa using this.symm
    have g4 : ∃ y, xs[4]? = some y := by rw [← Option.isSome_iff_exists]; have := congrArg (fun l => (l[4]?).isSome) e; simpa using this.symm
    obtain ⟨y0, g0⟩ := g0; obtain ⟨y1, g1⟩ := g1; obtain ⟨y2, g2⟩ := g2; obtain ⟨y3, g3⟩ := g3; obtain ⟨y4, g4⟩ := g4
    have m0 : y0.1 = .lit (.int .u32 0) := by have := congrArg (fun l => l[0]?) e; simpa [g0] using this.symm
    have m1 : y1.1 = .lit (.int .i32 100000) := by have := congrArg (fun l => l[1]?) e; simpa [g1] using this.symm
    have m2 : y2.1 = .lit (.int .i32 (-100000)) := by have := congrArg (fun l => l[2]?) e; simpa [g2] using this.symm
    have m3 : y3.1 = .lit (.int .u32 1967) := by have := congrArg (fun l => l[3]?) e; simpa [g3] using this.symm
    have m4 : y4.1 = .lit (.string []) := by have := congrArg (fun l => l[4]?) e; simpa [g4] using this.symm
    rw [g0] at k0; rw [g1] at k1; rw [g2] at k2; rw [g3] at k3; rw [g4] at k4
    obtain ⟨n0, q0, r0, _⟩ := DataW.trod_int Tryz.underlying52 k0
    obtain ⟨n1, q1, r1, _⟩ := DataW.trod_int Tryz.underlying21 k1
    obtain ⟨n2, q2, r2, _⟩ := DataW.trod_int Tryz.underlying21 k2
    obtain ⟨n3, q3, r3, _⟩ := DataW.trod_int Tryz.underlying53 k3
    obtain ⟨s4, q4, r4, _⟩ := DataW.trod_string Tryz.underlying83 k4
    rw [r0] at m0; rw [r1] at m1; rw [r2] at m2; rw [r3] at m3; rw [r4] at m4
    simp at q0 q1 q2 q3 q4 m0 m1 m2 m3 m4
    have hs4 : s4 = ⟨#[]⟩ := by
      apply ByteArray.ext
      apply Array.ext'
      simpa using m4
    subst hs4 m0 m1 m2 m3 q0 q1 q2 q3 q4
    exact ⟨hcell 0 _ rfl, hcell 1 _ rfl, hcell 2 _ rfl, hcell 3 _ rfl, hcell 4 _ rfl⟩
end Go.Proofs.YteokhhepnoelhaaGreatDoor

set_option linter.unusedVariables false
set_option linter.unusedSimpArgs false
namespace Go.Proofs.YteokhhepnoelhaaGreatDoor
open Go.RowKit Go.ChangeShapes Go.WideShapes Go.ChangeAt

theorem Tryz.own : ownKnob Tryz.prog.godebug = none := by kernel_rfl
theorem Tryz.laidOut : laidOutB Tryz.prog = true := by kernel_rfl

theorem trodVars_cons' {H : Type} {enc : TypeId × Value → H} {P : Program} {W : World} {sp : Nat → Bool} {n : String} {ns : List String} {gs : List (DataW H)} {ps : List MemPlace}
    (h : DataW.TrodVars enc P W sp (n :: ns) gs ps) : ∃ d ds ps', gs = d :: ds ∧ DataW.TrodVars enc P W sp ns ds ps' := by
  match gs, h with
  | [], h => exact h.elim
  | d :: ds, h =>
    obtain ⟨_, _, _, _, _, q, _, _, _, _, hs, _⟩ := h
    exact ⟨d, ds, q, rfl, hs⟩
theorem trodVars_nil' {H : Type} {enc : TypeId × Value → H} {P : Program} {W : World} {sp : Nat → Bool} {gs : List (DataW H)} {ps : List MemPlace}
    (h : DataW.TrodVars enc P W sp [] gs ps) : gs = [] := by
  match gs, h with
  | [], _ => rfl
  | _ :: _, h => exact h.elim
theorem trodVars_eight {H : Type} {enc : TypeId × Value → H} {P : Program} {W : World} {sp : Nat → Bool} {n1 n2 n3 n4 n5 n6 n7 n8 : String} {gs : List (DataW H)} {ps : List MemPlace}
    (h : DataW.TrodVars enc P W sp [n1, n2, n3, n4, n5, n6, n7, n8] gs ps) : ∃ g1 g2 g3 g4 g5 g6 g7 g8, gs = [g1, g2, g3, g4, g5, g6, g7, g8] := by
  obtain ⟨g1, r1, q1, e1, h1⟩ := trodVars_cons' h
  obtain ⟨g2, r2, q2, e2, h2⟩ := trodVars_cons' h1
  obtain ⟨g3, r3, q3, e3, h3⟩ := trodVars_cons' h2
  obtain ⟨g4, r4, q4, e4, h4⟩ := trodVars_cons' h3
  obtain ⟨g5, r5, q5, e5, h5⟩ := trodVars_cons' h4
  obtain ⟨g6, r6, q6, e6, h6⟩ := trodVars_cons' h5
  obtain ⟨g7, r7, q7, e7, h7⟩ := trodVars_cons' h6
  obtain ⟨g8, r8, q8, e8, h8⟩ := trodVars_cons' h7
  have e9 := trodVars_nil' h8
  exact ⟨g1, g2, g3, g4, g5, g6, g7, g8, by rw [e1, e2, e3, e4, e5, e6, e7, e8, e9]⟩
end Go.Proofs.YteokhhepnoelhaaGreatDoor

set_option linter.unusedVariables false
set_option linter.unusedSimpArgs false
namespace Go.Proofs.YteokhhepnoelhaaGreatDoor
open Go.RowKit Go.Lib Go.Shelf

theorem int_of_reads {w : World} {n : String} {g : Nat} {t : TypeId} {z : Int} (hg : Tryz.prog.globalNamed n = some g) (ht : (Tryz.prog.globals[g]?).map (·.type) = some t) (hu : Tryz.prog.underlying t = some (.int .i64))
    (h : VarReads Tryz.prog w n (.lit (.int .i64 z))) : w.cell? ⟨g, 0, none⟩ = some (.int .i64 z) := by
  obtain ⟨g', t', cs, fuel, p, hg', hty, hvar, hd⟩ := h
  obtain rfl := Option.some.inj (hg.symm.trans hg')
  obtain rfl := Option.some.inj (ht.symm.trans hty)
  obtain ⟨m, q0, r0, _⟩ := DataW.trod_int hu hd
  simp at r0
  obtain ⟨rfl, rfl⟩ := r0
  rw [World.var?_cell hg hvar 0, ← Array.getElem?_toList, q0]
  rfl

theorem thr_of_laid {w : World} (h1 : VarReads Tryz.prog w "loop.example/pub-g03241/pub/bigall.leafSize" (.lit (.int .i64 8)))
    (h2 : VarReads Tryz.prog w "loop.example/pub-g03241/pub/bigall.divRecursiveThreshold" (.lit (.int .i64 40)))
    (h3 : VarReads Tryz.prog w "loop.example/pub-g03241/pub/bigall.basicSqrThreshold" (.lit (.int .i64 12)))
    (h4 : VarReads Tryz.prog w "loop.example/pub-g03241/pub/bigall.karatsubaSqrThreshold" (.lit (.int .i64 80)))
    (h5 : VarReads Tryz.prog w "loop.example/pub-g03241/pub/bigall.karatsubaThreshold" (.lit (.int .i64 40))) : Thr w :=
  ⟨int_of_reads (by kernel_rfl) (by kernel_rfl) Tryz.underlying3 h1, int_of_reads (by kernel_rfl) (by kernel_rfl) Tryz.underlying3 h2, int_of_reads (by kernel_rfl) (by kernel_rfl) Tryz.underlying3 h3,
    int_of_reads (by kernel_rfl) (by kernel_rfl) Tryz.underlying3 h4, int_of_reads (by kernel_rfl) (by kernel_rfl) Tryz.underlying3 h5⟩

theorem case_of_laid {w : World} (h : VarReads Tryz.prog w "unicode.CaseRanges" Go.Pinned.caseRanges) : CaseVar 1 caseA w := by
  rw [Pinned.caseRanges_eq] at h
  exact caseVar_of_reads (ρ := Tryz.lays159_ren) { Tryz.lays159 with } Tryz.lays159.t206 ⟨by kernel_rfl, by kernel_rfl, by kernel_rfl, by kernel_rfl, by kernel_rfl, by kernel_rfl⟩ h
theorem u8_of_laid {w : World} (h : VarReads Tryz.prog w "unicode/utf8.first" Go.Pinned.utf8First) (h' : VarReads Tryz.prog w "unicode/utf8.acceptRanges" acceptData) : Lib.Utf8Tabs 6 7 w := by
  rw [Pinned.utf8First_eq] at h
  exact utf8Tabs_of_reads (ρ := Tryz.lays159_ren) { Tryz.lays159 with } ⟨by kernel_rfl, by kernel_rfl, by kernel_rfl, by kernel_rfl, by kernel_rfl, by kernel_rfl, by kernel_rfl⟩ h h'

theorem Tryz.star : "*" ++ "errors.errorString" = "*errors.errorString" := by decide
theorem Tryz.row147 (u : TypeId) (h : Tryz.prog.typeName? 3 u = some "*errors.errorString") : u = 147 :=
  typeName_ptr_named (nm := "errors.errorString") (by rw [Tryz.star]; kernel_rfl) (by kernel_rfl) (by decide) u (by rw [Tryz.star]; exact h)

theorem sentinel {n : String} {text : List UInt8} {r : List (String × DataW Unit)} {w : World} {g : Nat} (h : laidMet Tryz.prog ((n, .iface "*errors.errorString" (.ptr (.agg [.lit (.string text)]))) :: r) w)
    (hg : Tryz.prog.globalNamed n = some g) (ht : (Tryz.prog.globals[g]?).map (·.type) = some 55) : ∃ a : Addr, w.var? Tryz.prog n = some #[.iface 147 (.pointer (some a))] := by
  obtain ⟨a, s, hv, _, _, _⟩ := laid_sentinel h hg ht Tryz.underlying55 Tryz.row147 Tryz.underlying147 Tryz.underlying149 rfl rfl Tryz.underlying9 (by kernel_rfl) (by kernel_rfl)
  exact ⟨a, hv⟩

/-- All that the walks ask of the world. -/
theorem vars_of_laid {w : World} {x0 x1 x2 : String × DataW Unit} {r : List (String × DataW Unit)} {t1 t2 t3 : List UInt8}
    (h : laidMet Tryz.prog (x0 :: x1 :: x2 :: ("unicode/utf8.acceptRanges", acceptData) :: ("strconv.ErrRange", .iface "*errors.errorString" (.ptr (.agg [.lit (.string t1)]))) :: ("strconv.ErrSyntax", .iface "*errors.errorString" (.ptr (.agg [.lit (.string t2)]))) :: ("io.EOF", .iface "*errors.errorString" (.ptr (.agg [.lit (.string t3)]))) :: r) w)
    (hC : CtxAt w 0 0 100000 (-100000) 1967 ⟨#[]⟩) (h1 : VarReads Tryz.prog w "unicode.CaseRanges" Go.Pinned.caseRanges) (h2 : VarReads Tryz.prog w "unicode/utf8.first" Go.Pinned.utf8First) :
    ∃ a pS pR, Vars w a 147 147 pS pR ⟨#[]⟩ := by
  obtain ⟨aR, hR⟩ := sentinel h.tail.tail.tail.tail (g := 3) (by kernel_rfl) (by kernel_rfl)
  obtain ⟨aS, hS⟩ := sentinel h.tail.tail.tail.tail.tail (g := 2) (by kernel_rfl) (by kernel_rfl)
  obtain ⟨a, hE⟩ := sentinel h.tail.tail.tail.tail.tail.tail (g := 5) (by kernel_rfl) (by kernel_rfl)
  refine ⟨a, _, _, hC, case_of_laid h1, u8_of_laid h2 (Lib.laidMet.reads h (.tail _ (.tail _ (.tail _ (.head _))))), ?_, hS, hR⟩
  exact World.var?_cell (n := "io.EOF") (by kernel_rfl) hE 0
end Go.Proofs.YteokhhepnoelhaaGreatDoor

set_option linter.unusedVariables false
set_option linter.unusedSimpArgs false
namespace Go.Proofs.YteokhhepnoelhaaGreatDoor
open Go.RowKit Go.ChangeShapes Go.WideShapes Go.ChangeAt Go.Proofs.YteokhhepnoelhaaGreatDoorW.PrintWords

theorem Tryz.decFields : ∃ f0 f1 f2 f3 : Field, Tryz.prog.underlying 30 = some (.struct #[f0, f1, f2, f3]) ∧ (f0.type = 3 ∧ f0.offset = 0) ∧ (f1.type = 4 ∧ f1.offset = 1) ∧ (f2.type = 28 ∧ f2.offset = 2) ∧ (f3.type = 3 ∧ f3.offset = 3) :=
  ⟨_, _, _, _, Tryz.underlying30, ⟨rfl, rfl⟩, ⟨rfl, rfl⟩, ⟨rfl, rfl⟩, ⟨rfl, rfl⟩⟩
theorem Tryz.c30 : Tryz.prog.cellsOf 30 = 4 := by kernel_rfl
theorem Tryz.c3 : Tryz.prog.cellsOf 3 = 1 := by kernel_rfl
theorem Tryz.c4 : Tryz.prog.cellsOf 4 = 1 := by kernel_rfl
theorem Tryz.c28 : Tryz.prog.cellsOf 28 = 1 := by kernel_rfl
theorem Tryz.c36 : Tryz.prog.cellsOf 36 = 1 := by kernel_rfl

theorem words_of_ints {W : World} {A : Option Addr} {n c : Nat} {zl : List Int} (hz : zl.length = c) (hn : n ≤ c) (hm : c ≤ maxLen) (hc : ∀ ad, A = some ad → ∀ i, i < zl.length → W.cell? (ad.add i) = some (.int .u64 (zl.getD i 0))) (hw : ∀ z ∈ zl, (Lit.int .u64 z).wf = true) (hA : 0 < n → A.isSome = true) :
    ∃ ws : List Nat, CW W A n c ws ∧ ∀ x ∈ ws, x < WB := by
  have hr : ∀ z ∈ zl, 0 ≤ z ∧ z < 18446744073709551616 := fun z hz => by
    have := hw z hz
    simp [Lit.wf, IntKind.min, IntKind.max, IntKind.signed, IntKind.bits] at this
    omega
  have hzs : zs ((zl.take n).map Int.toNat) = zl.take n := by
    unfold zs
    rw [List.map_map]
    conv => rhs; rw [← List.map_id (zl.take n)]
    apply List.map_congr_left
    intro z hz
    have := hr z (List.mem_of_mem_take hz)
    show ((z.toNat : Nat) : Int) = z
    omega
  refine ⟨(zl.take n).map Int.toNat, ⟨?_, hn, ?_⟩, fun x hx => ?_⟩
  · simp; omega
  · rw [hzs]
    refine Kd.C_of_reads (d := (0 : Int)) (h1 := fun _ => rfl) (readsInt_of.1 ⟨?_, ?_, fun hp => ?_⟩)
    · simp; omega
    · unfold maxLen at hm; omega
    · obtain ⟨ad, rfl⟩ := Option.isSome_iff_exists.1 (hA hp)
      refine ⟨ad, rfl, fun j hj => ?_⟩
      rw [hc ad rfl j (by omega)]
      simp [List.getD_eq_getElem?_getD, List.getElem?_take, hj]
  · obtain ⟨z, hz, rfl⟩ := List.mem_map.1 hx
    have := hr z (List.mem_of_mem_take hz)
    rw [WB_eq]; omega

set_option maxRecDepth 100000 in
theorem open_dec {H : Type} {enc : TypeId × Value → H} {W : World} {r : Reach} {b0 : Nat} {v : Value} {d : DataW H} {p : List MemPlace} (hval : Value.okWide Tryz.prog W r b0 30 v) (h : DataW.Trod enc Tryz.prog W 0 (fun _ => true) true 30 v d p) :
    ∃ F neg A n c e ws, v = .agg #[.int .i64 F, .bool neg, .slice A n c, .int .i64 e] ∧ CW W A n c ws ∧ ∀ x ∈ ws, x < WB := by
  obtain ⟨f0, f1, f2, f3, hu, ⟨a0, b0⟩, ⟨a1, b1⟩, ⟨a2, b2⟩, ⟨a3, b3⟩⟩ := Tryz.decFields
  obtain ⟨cs, rfl, hs⟩ := okWide_struct hu hval
  rw [Tryz.c30] at hs
  obtain ⟨fuel, hf⟩ := h
  obtain ⟨xs, n, _, hx, hl, hxl, hfs⟩ := DataW.trod_struct hu hf
  have k0 := hfs 0 f0 rfl; have k1 := hfs 1 f1 rfl; have k2 := hfs 2 f2 rfl; have k3 := hfs 3 f3 rfl
  rw [a0, b0, Tryz.c3] at k0; rw [a1, b1, Tryz.c4] at k1; rw [a2, b2, Tryz.c28] at k2; rw [a3, b3, Tryz.c3] at k3
  obtain ⟨cl⟩ := cs
  simp at hs
  match cl, hs with
  | [v0, v1, v2, v3], _ =>
    match xs, hxl with
    | [x0, x1, x2, x3], _ =>
      simp [Value.cells] at k0 k1 k2 k3
      obtain ⟨F, q0, _, _⟩ := DataW.trod_int Tryz.underlying3 k0
      obtain ⟨b, q1, _⟩ := DataW.trod_bool Tryz.underlying4 k1
      obtain ⟨E, q3, _, _⟩ := DataW.trod_int Tryz.underlying3 k3
      simp at q0 q1 q3
      subst q0 q1 q3
      rcases open_ints Tryz.underlying28 Tryz.underlying36 Tryz.c36 k2 with ⟨q2, _⟩ | ⟨a, len, cap, zl, q2, _, h1, h2, h3, _, h5, h6⟩
      · simp at q2
        subst q2
        obtain ⟨ws, hw1, hw2⟩ := words_of_ints (W := W) (A := none) (n := 0) (c := 0) (zl := []) rfl (Nat.le_refl _) (Nat.zero_le _) (fun _ h => by cases h) (fun _ h => by cases h) (fun h => by omega)
        exact ⟨F, b, none, 0, 0, E, ws, rfl, hw1, hw2⟩
      · simp at q2
        subst q2
        simp at h3
        obtain ⟨ws, hw1, hw2⟩ := words_of_ints (W := W) (A := some a) (n := len) (c := cap) (zl := zl) h3 h1 h2 (fun ad e i hi => by cases e; exact h5 i hi) h6 (fun _ => rfl)
        exact ⟨F, b, some a, len, cap, E, ws, rfl, hw1, hw2⟩

set_option maxRecDepth 100000 in
set_option maxHeartbeats 4000000 in
theorem back_lifted (os : Os) (started : os.Started) (H : Type) (enc : TypeId × Value → H) :
    ReturnsInHanded {} Tryz.checked os 6 .any (fun w args => (Rows.fnBackSpec.pre enc Tryz.prog Tryz.f6 [] false w args ∧ laidMetH Tryz.prog Rows.fnBackRow.laid w) ∧ sizedMet enc Tryz.prog Tryz.f6 (OpenSpec.ofChange Rows.fnBackSpec) false w args)
      (Rows.fnBackSpec.post enc Tryz.prog Tryz.f6 false true false false) := by
  refine returnsInHanded_of_change_and (C := Tryz.checked) (X := fun w _ => laidMetH Tryz.prog Rows.fnBackRow.laid w) (fun _ _ _ hh h => h.of_heap hh) Tryz.own started (by as_aux_lemma => kernel_rfl) Tryz.func6
    (ChangeSpec.witness_shaped (enc := enc) (C := Tryz.checked) (os := os) (X := fun w _ => laidMetH Tryz.prog Rows.fnBackRow.laid w) false (World.laidAll Tryz.prog os Rows.fnBackRow.laid) #[.agg #[.int .i64 0, .bool false, .slice none 0 0, .int .i64 0], .int .u8 0] 8 (World.laidAll_os _ _ _)
      (World.shaped_of_ZipB (by as_aux_lemma => kernel_rfl) (by as_aux_lemma => kernel_rfl)) (by as_aux_lemma => kernel_rfl) (by as_aux_lemma => kernel_rfl) (by as_aux_lemma => kernel_rfl)
      (by rw [MakeChecks.laidMetH_plain _ _ _ (by as_aux_lemma => kernel_rfl)]; exact laidMet_laidAll _ (by as_aux_lemma => kernel_rfl) (by as_aux_lemma => kernel_rfl))) ?_
  intro W base args ds gs before hval0 hW _ _ hL _
  have hval : ∀ (j : Nat) t v, Tryz.f6.params[j]? = some t → args[j]? = some v → Value.okWide Tryz.prog W .any base t v := hval0
  have hW' := hW
  obtain ⟨p, q, hA0, hV, rfl, _, _⟩ := hW
  have hA : DataW.TrodAll enc Tryz.prog W 0 (fun _ => true) true Tryz.f6.params.toList args.toList ds p := hA0
  rw [Tryz.params6] at hA hval
  obtain ⟨v0, v1, d0, d1, p0, p1, rfl, rfl, rfl, h0, h1⟩ := trodAll_two hA
  obtain ⟨x, rfl, rfl, rfl, wx⟩ := open_int Tryz.underlying5 (hval 1 5 v1 rfl rfl) h1
  obtain ⟨F, neg, A, n, c, e0, ws, rfl, hX, hw⟩ := open_dec (hval 0 30 v0 rfl rfl) h0
  have hx : 0 ≤ x ∧ x ≤ 255 := by simpa [Lit.wf, IntKind.min, IntKind.max, IntKind.signed, IntKind.bits] using wx
  rw [MakeChecks.laidMetH_plain _ _ _ (by as_aux_lemma => kernel_rfl)] at hL
  have hC : CtxAt W 0 0 100000 (-100000) 1967 ⟨#[]⟩ := ctx_of_reads (Lib.laidMet.reads hL (n := "loop.example/pub-g03241/pub/apd.BaseContext") (d := Rows.laid_loop_example_pub_g03241_pub_apd_BaseContext) (by simp [Rows.fnBackRow]))
  have hT : Thr W := thr_of_laid
    (Lib.laidMet.reads hL (d := Rows.laid_loop_example_pub_g03241_pub_bigall_leafSize) (by simp [Rows.fnBackRow]))
    (Lib.laidMet.reads hL (d := Rows.laid_loop_example_pub_g03241_pub_bigall_divRecursiveThreshold) (by simp [Rows.fnBackRow]))
    (Lib.laidMet.reads hL (d := Rows.laid_loop_example_pub_g03241_pub_bigall_basicSqrThreshold) (by simp [Rows.fnBackRow]))
    (Lib.laidMet.reads hL (d := Rows.laid_loop_example_pub_g03241_pub_bigall_karatsubaSqrThreshold) (by simp [Rows.fnBackRow]))
    (Lib.laidMet.reads hL (d := Rows.laid_loop_example_pub_g03241_pub_bigall_karatsubaThreshold) (by simp [Rows.fnBackRow]))
  have hU : TabU W := by
    have ht : (Rows.laid_internal_strconv_uint64pow10 : DataW Unit) = Lib.tabData .u64 Lib.pow10Tab := by as_aux_lemma => kernel_rfl
    have hL2 := hL
    unfold Rows.fnBackRow at hL2
    simp only [ht] at hL2
    exact Lib.tabIs_of_head (g := 17) (t := 304) (e := 112) (n := 20) (by kernel_rfl) (by kernel_rfl) Tryz.underlying304 Tryz.underlying112 (by kernel_rfl) (by kernel_rfl) hL2.tail.tail
  obtain ⟨a, pS, pR, hVs⟩ := vars_of_laid (w := W) (by
      have hac : (Rows.laid_unicode_utf8_acceptRanges : DataW Unit) = Lib.acceptData := by as_aux_lemma => kernel_rfl
      have hL2 := hL
      unfold Rows.fnBackRow at hL2
      simp only [hac] at hL2
      exact hL2) hC
    (Lib.laidMet.reads hL (d := Rows.laid_unicode_CaseRanges) (by simp [Rows.fnBackRow]))
    (Lib.laidMet.reads hL (d := Rows.laid_unicode_utf8_first) (by simp [Rows.fnBackRow]))
  have hlt : ∀ x ∈ p0, x.block < W.heap.size := by
    obtain ⟨m, hm⟩ := h0
    exact DataW.trod_lt m _ _ _ hm
  refine (back_law F neg A n c ws e0 x W hX hw hx.1 hx.2 hVs hT hU).mono fun e W' ⟨he, hb⟩ => ?_
  subst he
  obtain ⟨g1, g2, g3, g4, g5, g6, g7, g8, rfl⟩ := trodVars_eight hV
  exact ⟨_, rfl, _, _, _, [], p0 ++ [], q, hW', trodAll_mk1 (shut_bool Tryz.underlying4 _), trodAll_mk2 (Below.trod Tryz.laidOut (by as_aux_lemma => kernel_rfl) (of_decide_eq_true (by as_aux_lemma => kernel_rfl)) h0 hb hlt) (shut_int Tryz.underlying5 wx), hb.trodVars Tryz.laidOut (by as_aux_lemma => kernel_rfl) hV, hb.frame _, fun h => by cases h⟩

end Go.Proofs.YteokhhepnoelhaaGreatDoor

set_option linter.unusedVariables false
set_option linter.unusedSimpArgs false
namespace Go.Proofs.YteokhhepnoelhaaGreatDoor

set_option maxHeartbeats 4000000 in
theorem back_closed : joinedFacts Tryz.prog 6 Tryz.f6 Rows.fnBackSpec Rows.fnBackRow = true := by
  unfold joinedFacts
  simp only [Bool.and_eq_true]
  repeat' apply And.intro
  all_goals as_aux_lemma => kernel_rfl
end Go.Proofs.YteokhhepnoelhaaGreatDoor

set_option linter.unusedVariables false
set_option linter.unusedSimpArgs false
namespace Go.Proofs.YteokhhepnoelhaaGreatDoor
open Go.RowKit Go.ChangeShapes Go.WideShapes Go.ChangeAt

set_option maxHeartbeats 4000000 in
theorem back_holds : Rows.FnBackSaid :=
  OpenClaim.holds_of_wide 6 Tryz.f6 rfl rfl rfl rfl rfl rfl rfl ⟨rfl, rfl, rfl, rfl, rfl⟩ rfl rfl rfl rfl rfl (by as_aux_lemma => kernel_rfl) Tryz.func6 back_closed
    (of_decide_eq_true (by as_aux_lemma => kernel_rfl)) (by unfold Func.isWrapper; first | (rw [if_pos (by decide +kernel)]; kernel_rfl) | (rw [if_neg (by decide +kernel)]; exact ⟨rfl, rfl⟩))
    (fun os started H enc _ => back_lifted os started H enc)

set_option maxHeartbeats 4000000 in
theorem back_card_holds : Rows.FnBackCardSaid :=
  Claim7.holds_tied_plain_at .later [] _ true _ true back_holds (fun _ h => by cases h) (by as_aux_lemma => kernel_rfl) (fun _ h => by cases h) fnBack_row_tie rfl ⟨rfl, rfl⟩ (by as_aux_lemma => kernel_rfl) rfl
    (fun f fn hf hfn => by
      obtain rfl : f = 6 := Option.some.inj ((show Tryz.prog.funcNamed "loop.example/pub-g03241/laws.FnBack" = some 6 by as_aux_lemma => kernel_rfl).symm.trans hf) |>.symm
      obtain rfl : fn = Tryz.f6 := (Option.some.inj (Tryz.func6.symm.trans hfn)).symm
      exact ⟨by as_aux_lemma => kernel_rfl, fun j t ht => by
        rw [Tryz.params6] at ht
        have hm : t ∈ [30, 5] := by simpa using Array.mem_of_getElem? ht
        have hall : ([30, 5].all fun u => !Tryz.prog.wantsStandIn u) = true := by as_aux_lemma => kernel_rfl
        exact (show Tryz.prog.wantsStandIn t = false by simpa using List.all_eq_true.1 hall t hm)⟩)
    (by as_aux_lemma => kernel_rfl)
#print axioms back_card_holds
end Go.Proofs.YteokhhepnoelhaaGreatDoor
