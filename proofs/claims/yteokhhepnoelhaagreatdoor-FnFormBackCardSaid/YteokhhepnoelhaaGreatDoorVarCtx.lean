/-
  apd.BaseContext, as the rows list it, in cells.
-/
import Derived.Test.YteokhhepnoelhaaGreatDoorSetExp
import Derived.ProofKit
import Derived.Lib.LaidU8
import Derived.KernelRfl
set_option linter.unusedVariables false
set_option linter.unusedSimpArgs false
namespace Go.Proofs.YteokhhepnoelhaaGreatDoor
open Go.RowKit

def baseData : DataW Unit := .agg [.lit (.int .u32 0), .lit (.int .i32 100000), .lit (.int .i32 (-100000)), .lit (.int .u32 1967), .lit (.string [])]

theorem Tryz.ctxName : Tryz.prog.globalNamed "loop.example/pub-g03241/pub/apd.BaseContext" = some 0 := by kernel_rfl
theorem Tryz.ctxType : (Tryz.prog.globals[0]?).map (·.type) = some 85 := by kernel_rfl
theorem Tryz.ctxFields : ∃ f0 f1 f2 f3 f4 : Field, Tryz.prog.underlying 85 = some (.struct #[f0, f1, f2, f3, f4]) ∧ (f0.type = 52 ∧ f0.offset = 0) ∧ (f1.type = 21 ∧ f1.offset = 1) ∧ (f2.type = 21 ∧ f2.offset = 2) ∧ (f3.type = 53 ∧ f3.offset = 3) ∧ (f4.type = 83 ∧ f4.offset = 4) :=
  ⟨_, _, _, _, _, Tryz.underlying85, ⟨rfl, rfl⟩, ⟨rfl, rfl⟩, ⟨rfl, rfl⟩, ⟨rfl, rfl⟩, ⟨rfl, rfl⟩⟩
theorem Tryz.c85 : Tryz.prog.cellsOf 85 = 5 := by kernel_rfl
theorem Tryz.c52 : Tryz.prog.cellsOf 52 = 1 := by kernel_rfl
theorem Tryz.c21 : Tryz.prog.cellsOf 21 = 1 := by kernel_rfl
theorem Tryz.c53 : Tryz.prog.cellsOf 53 = 1 := by kernel_rfl
theorem Tryz.c83 : Tryz.prog.cellsOf 83 = 1 := by kernel_rfl

theorem lit_int {k : IntKind} {n m : Int} {xs : List (DataW Unit × List MemPlace)} {i : Nat} {q : List MemPlace} (h : some (DataW.lit (.int k n), q) = xs[i]?) (hx : (xs.map (·.1))[i]? = some (.lit (.int k m))) : n = m := by
  rw [List.getElem?_map, ← h] at hx
  simpa using hx

theorem ctx_of_reads {w : World} (h : Lib.VarReads Tryz.prog w "loop.example/pub-g03241/pub/apd.BaseContext" baseData) : CtxAt w 0 0 100000 (-100000) 1967 ⟨#[]⟩ := by
  obtain ⟨g, t, cs, fuel, p, hg, hty, hvar, hd⟩ := h
  obtain rfl := Option.some.inj (Tryz.ctxName.symm.trans hg)
  obtain rfl := Option.some.inj (Tryz.ctxType.symm.trans hty)
  obtain ⟨f0, f1, f2, f3, f4, hu, ⟨a0, b0⟩, ⟨a1, b1⟩, ⟨a2, b2⟩, ⟨a3, b3⟩, ⟨a4, b4⟩⟩ := Tryz.ctxFields
  obtain ⟨xs, n, _, hx, hl, _, hf⟩ := DataW.trod_struct hu hd
  rw [Tryz.c85] at hl
  have e := congrArg Prod.fst hx
  simp only [baseData, DataW.agg.injEq] at e
  have k0 := hf 0 f0 rfl; have k1 := hf 1 f1 rfl; have k2 := hf 2 f2 rfl; have k3 := hf 3 f3 rfl; have k4 := hf 4 f4 rfl
  rw [a0, b0, Tryz.c52] at k0; rw [a1, b1, Tryz.c21] at k1; rw [a2, b2, Tryz.c21] at k2; rw [a3, b3, Tryz.c53] at k3; rw [a4, b4, Tryz.c83] at k4
  have hcell : ∀ i v, cs.toList[i]? = some v → w.cell? ⟨0, i, none⟩ = some v := fun i v hi => by
    rw [World.var?_cell Tryz.ctxName hvar i, ← Array.getElem?_toList]; exact hi
  match hcs : cs.toList, hl with
  | [v0, v1, v2, v3, v4], _ =>
    rw [hcs] at k0 k1 k2 k3 k4 hcell
    have g0 : ∃ y, xs[0]? = some y := by rw [← Option.isSome_iff_exists]; have := congrArg (fun l => (l[0]?).isSome) e; simpa using this.symm
    have g1 : ∃ y, xs[1]? = some y := by rw [← Option.isSome_iff_exists]; have := congrArg (fun l => (l[1]?).isSome) e; simpa using this.symm
    have g2 : ∃ y, xs[2]? = some y := by rw [← Option.isSome_iff_exists]; have := congrArg (fun l => (l[2]?).isSome) e; simpa using this.symm
    have g3 : ∃ y, xs[3]? = some y := by rw [← Option.isSome_iff_exists]; have := congrArg (fun l => (l[3]?).isSome) e; simpa using this.symm
    have g4 : ∃ y, xs[4]? = some y := by rw [← Option.isSome_iff_exists]; have := congrArg (fun l => (l[4]?).isSome) e; simpa using this.symm
    obtain ⟨y0, g0⟩ := g0; obtain ⟨y1, g1⟩ := g1; obtain ⟨y2, g2⟩ := g2; obtain ⟨y3, g3⟩ := g3; obtain ⟨y4, g4⟩ := g4
    have m0 : y0.1 = .lit (.int .u32 0) := by have := congrArg (fun l => l[0]?) e; simpa [g0] using this.symm
    have m1 : y1.1 = .lit (.int .i32 100000) := by have := congrArg (fun l => l[1]?) e; simpa [g1] using this.symm
    have m2 : y2.1 = .lit (.int .i32 (-100000)) := by have := congrArg (fun l => l[2]?) e; simpa [g2] using this.symm
    have m3 : y3.1 = .lit (.int .u32 1967) := by have := congrArg (fun l => l[3]?) e; simpa [g3] using this.symm
    have m4 : y4.1 = .lit (.string []) := by have := congrArg (fun l => l[4]?) e; simpa [g4] using this.symm
    rw [g0] at k0; rw [g1] at k1; rw [g2] at k2; rw [g3] at k3; rw [g4] at k4
    obtain ⟨n0, q0, r0, _⟩ := DataW.trod_int Tryz.underlying52 k0
    obtain ⟨n1, q1, r1, _⟩ := DataW.trod_int Tryz.underlying21 k1
    obtain ⟨n2, q2, r2, _⟩ := DataW.trod_int Tryz.underlying21 k2
    obtain ⟨n3, q3, r3, _⟩ := DataW.trod_int Tryz.underlying53 k3
    obtain ⟨s4, q4, r4, _⟩ := DataW.trod_string Tryz.underlying83 k4
    rw [r0] at m0; rw [r1] at m1; rw [r2] at m2; rw [r3] at m3; rw [r4] at m4
    simp at q0 q1 q2 q3 q4 m0 m1 m2 m3 m4
    have hs4 : s4 = ⟨#[]⟩ := by
      apply ByteArray.ext
      apply Array.ext'
      simpa using m4
    subst hs4 m0 m1 m2 m3 q0 q1 q2 q3 q4
    exact ⟨hcell 0 _ rfl, hcell 1 _ rfl, hcell 2 _ rfl, hcell 3 _ rfl, hcell 4 _ rfl⟩
end Go.Proofs.YteokhhepnoelhaaGreatDoor
