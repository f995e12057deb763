/-
  impl.Parse at a text that is a number by its shape.
-/
import Derived.Test.YteokhhepnoelhaaGreatDoorXav
import Derived.Test.YteokhhepnoelhaaGreatDoorXbs
import Derived.Test.YteokhhepnoelhaaGreatDoorXbt
import Derived.Test.YteokhhepnoelhaaGreatDoorXao
import Derived.ProofKit
import Derived.Lib.LaidU8
import Derived.KernelRfl
import Derived.Test.YteokhhepnoelhaaGreatDoorRows
import Derived.OpenVars
import Derived.Test.YteokhhepnoelhaaGreatDoorXau
import Derived.Test.YteokhhepnoelhaaGreatDoorXah
import Derived.PinnedBridge
import Derived.Lib.LaidCase
import Derived.Stop.LaidErr
set_option linter.unusedVariables false
set_option linter.unusedSimpArgs false
namespace Go.Proofs.YteokhhepnoelhaaGreatDoor
open Go.RowKit
theorem expSets_all (cb D : Nat) (neg : Bool) (ds : List UInt8) (es : List Int) (X : Nat) (v : Value) (nd : Int) (w1 : World) (B : Nat) (hes : SmallEs es 2) (hX : ExpsAt w1 B X es) (hD : DecAt w1 D 0 neg 0 false v false)
 (prec traps : Int) (r : ByteArray) (hC : CtxAt w1 cb prec 100000 (-100000) traps r) (hnd : 1 ≤ nd) (hnd' : nd ≤ 1000)
 (hN : Calls Tryz.prog 88 #[.pointer (some ⟨D, 0, none⟩)] w1 fun e w' => e = .returned (.int .i64 nd) ∧ Fr NoB w1 w') : ExpSets cb D neg ds es X w1 := by
 obtain ⟨h1, h2⟩ := hes;unfold ExpSets;match es, h1, h2, hX with
 | [], _, _, _ => exact setExponent_none_asked D cb 0 neg 0 false v false nd 0 X 2 w1 hD prec traps r hC hnd hnd' (by omega) (by omega) (.inl rfl) hN
 | [a], _, h2, hX =>
  have ha := h2 a (by simp);have := setExponent_one_asked D cb 0 neg 0 false v false nd 0 a X 2 w1 hD prec traps r hC (hX.cell 0 a rfl) (by omega) (by omega) hnd hnd' (by omega) (by omega) (.inl rfl) hN;rw [show [a].sum = a by simp];exact this
 | [a, b], _, h2, hX =>
  have ha := h2 a (by simp);have hb := h2 b (by simp);have := setExponent_two_asked D cb 0 neg 0 false v false nd 0 a b X 2 w1 hD prec traps r hC (hX.cell 0 a rfl) (hX.cell 1 b rfl) (by omega) (by omega) (by omega) (by omega) (by omega) (by omega) hnd hnd' (by omega) (by omega) (.inl rfl) hN;rw [show [a, b].sum = a + b by simp];exact this
 | _ :: _ :: _ :: _, h1, _, _ => exact absurd h1 (by simp only [List.length_cons]; omega)
theorem SmallEs.sum {es : List Int} (h : SmallEs es 2) : -40000 ≤ es.sum ∧ es.sum ≤ 40000 := by
 obtain ⟨h1, h2⟩ := h;match es, h1, h2 with
 | [], _, _ => simp
 | [a], _, h2 => have ha := h2 a (by simp); simp; omega
 | [a, b], _, h2 => have ha := h2 a (by simp); have hb := h2 b (by simp); simp; omega
 | _ :: _ :: _ :: _, h1, _ => exact absurd h1 (by simp only [List.length_cons]; omega)
theorem NumText.low {l ds : List UInt8} {neg : Bool} {e : Int} (h : NumText l neg ds e) (hl : l.length ≤ 250) : NumLow l neg ds e ∧ Digs ds ∧ ds.length ≤ l.length := by
 obtain ⟨sg, a, dot, b, ex, x, h1, h2, h3, h4, h5, h6, h7, rfl, rfl⟩ := h;have hlen := congrArg List.length h1;simp only [List.length_append] at hlen;refine ⟨numLow h1 h2 h3 h4 h5 h6 h7 (by omega), fun c hc => ?_, by simp only [List.length_append]; omega⟩;rw [List.mem_append] at hc;exact hc.elim (h3 c) (h4 c)
theorem specRead (l : List UInt8) (w : World) (hl : l.length ≤ 60) : Calls Tryz.prog 8 #[.string ⟨l.toArray⟩] w (ReadEnd8 w l) := specRead_all l w hl
theorem blen_small {V k : Nat} (h : V < 2 ^ k) : blen V ≤ k := by
 by_cases h0 : V = 0;· subst h0; simp [blen]
 · obtain ⟨h1, h2, h3⟩ := blen_bounds h0;rcases Nat.lt_or_ge k (blen V) with h4 | h4
   · have := Nat.pow_le_pow_right (n := 2) (by omega) (show k ≤ blen V - 1 by omega);omega
   · exact h4
theorem decVal_bits {ds : List UInt8} (hd : Digs ds) (hl : ds.length ≤ 60) : blen (decVal ds) ≤ 200 := by
 refine blen_small ?_;have h1 := decVal_lt ds hd;have h2 : 10 ^ ds.length ≤ 10 ^ 60 := Nat.pow_le_pow_right (by omega) hl;have h3 : (10 : Nat) ^ 60 < 2 ^ 200 := by decide
 omega
theorem nDigits_bits {V : Nat} (h : blen V ≤ 200) : 1 ≤ Lib.nDigits V ∧ Lib.nDigits V ≤ 100 := by
 refine ⟨Lib.nDigits_pos _, ?_⟩;by_cases h0 : V = 0;· subst h0; rw [Lib.nDigits_small (by omega)]; omega
 · have h2 := (blen_bounds h0).2.1;have h3 : (2 : Nat) ^ blen V ≤ 2 ^ 200 := Nat.pow_le_pow_right (by omega) h;have h4 : (2 : Nat) ^ 200 < 10 ^ 100 := by decide
   exact nDigits_le h0 (by omega)
theorem Tryz.c21 : Tryz.prog.cellsOf 21 = 1 := by kernel_rfl
end Go.Proofs.YteokhhepnoelhaaGreatDoor
namespace Go.Proofs.YteokhhepnoelhaaGreatDoor
open Go.RowKit Go.ChangeShapes Go.WideShapes Go.ChangeAt
theorem Tryz.own : ownKnob Tryz.prog.godebug = none := by kernel_rfl
theorem Tryz.laidOut : laidOutB Tryz.prog = true := by kernel_rfl
theorem trodVars_cons' {H : Type} {enc : TypeId × Value → H} {P : Program} {W : World} {sp : Nat → Bool} {n : String} {ns : List String} {gs : List (DataW H)} {ps : List MemPlace}
 (h : DataW.TrodVars enc P W sp (n :: ns) gs ps) : ∃ d ds ps', gs = d :: ds ∧ DataW.TrodVars enc P W sp ns ds ps' := by
 match gs, h with
 | [], h => exact h.elim
 | d :: ds, h =>
  obtain ⟨_, _, _, _, _, q, _, _, _, _, hs, _⟩ := h;exact ⟨d, ds, q, rfl, hs⟩
theorem trodVars_nil' {H : Type} {enc : TypeId × Value → H} {P : Program} {W : World} {sp : Nat → Bool} {gs : List (DataW H)} {ps : List MemPlace}
 (h : DataW.TrodVars enc P W sp [] gs ps) : gs = [] := by
 match gs, h with
 | [], _ => rfl
 | _ :: _, h => exact h.elim
end Go.Proofs.YteokhhepnoelhaaGreatDoor
namespace Go.Proofs.YteokhhepnoelhaaGreatDoor
open Go.RowKit Go.Lib Go.Shelf
theorem int_of_reads {w : World} {n : String} {g : Nat} {t : TypeId} {z : Int} (hg : Tryz.prog.globalNamed n = some g) (ht : (Tryz.prog.globals[g]?).map (·.type) = some t) (hu : Tryz.prog.underlying t = some (.int .i64))
 (h : VarReads Tryz.prog w n (.lit (.int .i64 z))) : w.cell? ⟨g, 0, none⟩ = some (.int .i64 z) := by
 obtain ⟨g', t', cs, fuel, p, hg', hty, hvar, hd⟩ := h;obtain rfl := Option.some.inj (hg.symm.trans hg');obtain rfl := Option.some.inj (ht.symm.trans hty);obtain ⟨m, q0, r0, _⟩ := DataW.trod_int hu hd;simp at r0;obtain ⟨rfl, rfl⟩ := r0;rw [World.var?_cell hg hvar 0, ← Array.getElem?_toList, q0];rfl
theorem thr_of_laid {w : World} (h1 : VarReads Tryz.prog w "loop.example/pub-g03241/pub/bigall.leafSize" (.lit (.int .i64 8)))
 (h2 : VarReads Tryz.prog w "loop.example/pub-g03241/pub/bigall.divRecursiveThreshold" (.lit (.int .i64 40)))
 (h3 : VarReads Tryz.prog w "loop.example/pub-g03241/pub/bigall.basicSqrThreshold" (.lit (.int .i64 12)))
 (h4 : VarReads Tryz.prog w "loop.example/pub-g03241/pub/bigall.karatsubaSqrThreshold" (.lit (.int .i64 80)))
 (h5 : VarReads Tryz.prog w "loop.example/pub-g03241/pub/bigall.karatsubaThreshold" (.lit (.int .i64 40))) : Thr w :=
 ⟨int_of_reads (by kernel_rfl) (by kernel_rfl) Tryz.underlying3 h1, int_of_reads (by kernel_rfl) (by kernel_rfl) Tryz.underlying3 h2, int_of_reads (by kernel_rfl) (by kernel_rfl) Tryz.underlying3 h3,
  int_of_reads (by kernel_rfl) (by kernel_rfl) Tryz.underlying3 h4, int_of_reads (by kernel_rfl) (by kernel_rfl) Tryz.underlying3 h5⟩
theorem case_of_laid {w : World} (h : VarReads Tryz.prog w "unicode.CaseRanges" Go.Pinned.caseRanges) : CaseVar 1 caseA w := by
 rw [Pinned.caseRanges_eq] at h;exact caseVar_of_reads (ρ := Tryz.lays159_ren) { Tryz.lays159 with } Tryz.lays159.t206 ⟨by kernel_rfl, by kernel_rfl, by kernel_rfl, by kernel_rfl, by kernel_rfl, by kernel_rfl⟩ h
theorem u8_of_laid {w : World} (h : VarReads Tryz.prog w "unicode/utf8.first" Go.Pinned.utf8First) (h' : VarReads Tryz.prog w "unicode/utf8.acceptRanges" acceptData) : Lib.Utf8Tabs 6 7 w := by
 rw [Pinned.utf8First_eq] at h;exact utf8Tabs_of_reads (ρ := Tryz.lays159_ren) { Tryz.lays159 with } ⟨by kernel_rfl, by kernel_rfl, by kernel_rfl, by kernel_rfl, by kernel_rfl, by kernel_rfl, by kernel_rfl⟩ h h'
theorem Tryz.star : "*" ++ "errors.errorString" = "*errors.errorString" := by decide
theorem Tryz.row147 (u : TypeId) (h : Tryz.prog.typeName? 3 u = some "*errors.errorString") : u = 147 :=
 typeName_ptr_named (nm := "errors.errorString") (by rw [Tryz.star]; kernel_rfl) (by kernel_rfl) (by decide) u (by rw [Tryz.star]; exact h)
theorem sentinel {n : String} {text : List UInt8} {r : List (String × DataW Unit)} {w : World} {g : Nat} (h : laidMet Tryz.prog ((n, .iface "*errors.errorString" (.ptr (.agg [.lit (.string text)]))) :: r) w)
 (hg : Tryz.prog.globalNamed n = some g) (ht : (Tryz.prog.globals[g]?).map (·.type) = some 55) : ∃ a : Addr, w.var? Tryz.prog n = some #[.iface 147 (.pointer (some a))] := by
 obtain ⟨a, s, hv, _, _, _⟩ := laid_sentinel h hg ht Tryz.underlying55 Tryz.row147 Tryz.underlying147 Tryz.underlying149 rfl rfl Tryz.underlying9 (by kernel_rfl) (by kernel_rfl);exact ⟨a, hv⟩
end Go.Proofs.YteokhhepnoelhaaGreatDoor
namespace Go.Proofs.YteokhhepnoelhaaGreatDoor
open Go.RowKit Go.Lib
structure VarsX (w : World) (a : Addr) (tpS tpR : TypeId) (pS pR : Value) : Prop where
 cse : Lib.CaseVar 1 Lib.caseA w
 u8 : Lib.Utf8Tabs 6 7 w
 eof : EofAt w a
 eS : w.var? Tryz.prog "strconv.ErrSyntax" = some #[.iface tpS pS]
 eR : w.var? Tryz.prog "strconv.ErrRange" = some #[.iface tpR pR]
theorem VarsX.below {w w' : World} {a : Addr} {tpS tpR : TypeId} {pS pR : Value} (h : VarsX w a tpS tpR pS pR) (hb : Below w.heap.size w w') : VarsX w' a tpS tpR pS pR := by
 have h5 : 5 < w.heap.size := h.eof.lt;have hF : Fr NoB w w' := Fr.of_below hb _;exact ⟨Lib.CaseVar_below h.cse hb, Utf8Tabs_below h.u8 hb, hF.cell' h.eof (fun h => h),
  var_keep (n := "strconv.ErrSyntax") (g := 2) (by kernel_rfl) hb (by omega) h.eS, var_keep (n := "strconv.ErrRange") (g := 3) (by kernel_rfl) hb (by omega) h.eR⟩
theorem lowerAtX (D : Nat) (n0 : Bool) (l : List UInt8) (w0 w : World) {a : Addr} {tpS tpR : TypeId} {pS pR : Value} (hV : VarsX w0 a tpS tpR pS pR) (hF : Fr NoB w0 w) (hD : w0.heap.size ≤ D) (hl : l.length ≤ 1000) :
 LowerAt w D l (Lib.toLowerD (unsign l)) := by
 unfold LowerAt;have hF2 : Fr (fun i => i = D) w0 (w.setCell ⟨D, 1, none⟩ (.bool (Lib.hasPrefix l [45]))) := (hF.mono (S' := fun i => i = D) (fun _ _ h => h.elim)).setCell (p := ⟨D, 1, none⟩) (fun _ => rfl) _;have hV2 := hV.below (hF2.to_below (Nat.le_refl _) (fun i hi h => by have : i = D := h; omega));have hul := unsign_len l;exact (Tryz.strings_ToLower_any ⟨(unsign l).toArray⟩ _ (by rw [str_size]; omega) hV2.cse hV2.u8).mono fun e w' ⟨he, hb⟩ => ⟨he, Fr.of_below hb _⟩
theorem setString_textX (l ds : List UInt8) (neg : Bool) (e : Int) (nd : Int) (w w1 : World) (D cb : Nat) {a : Addr} {tpS tpR : TypeId} {pS pR : Value} (hV : VarsX w a tpS tpR pS pR) (hT : Thr w) (h : NumLow l neg ds e) (hl : l.length ≤ 250)
 (hN : DigOk (decVal ds) nd) (hnd : 1 ≤ nd) (hnd' : nd ≤ 1000) (hD : DecAt w1 D 0 false 0 false (.slice none 0 0) false) (hF : Fr NoB w w1) (hge : w.heap.size ≤ D)
 (prec traps : Int) (rr : ByteArray) (hC : ∀ wx, Fr (fun i => i = D) w1 wx → CtxAt wx cb prec 100000 (-100000) traps rr) :
 Calls Tryz.prog 41 #[.pointer (some ⟨D, 0, none⟩), .pointer (some ⟨cb, 0, none⟩), .string ⟨l.toArray⟩] w1 (fun en w' => ∃ es, es.sum = e ∧ SmallEs es 2 ∧ GoodEnd w1 D neg ds es en w') := by
 have h19 := hT.size;have hL := lowerAtX D false l w w1 hV hF hge (by omega);have hVx : ∀ wx, Fr (fun i => i = D) w1 wx → VarsX wx a tpS tpR pS pR := fun wx hx =>
  hV.below (((hF.mono (S' := fun i => i = D) (fun _ _ h => h.elim)).trans hx (fun _ _ h => h)).to_below (Nat.le_refl _) (fun i hi h => by have : i = D := h; omega))
 have hTx : ∀ wx, Fr (fun i => i = D) w1 wx → Thr wx := fun wx hx => (hT.fr hF (fun _ _ h => h)).fr hx (fun i hi h => by have h : i = D := h; omega)
 obtain ⟨es, r1, r2, r3⟩ := h.read;refine (setString_num D cb false l _ w1 hD hL (by omega) h.pre1 h.pre2 h.no_n (by have := h.len; omega) tpS tpR pS pR (fun wx hx => (hVx wx hx).eS) (fun wx hx => (hVx wx hx).eR) (by omega) a (hVx w1 (Fr.refl _ _)).eof ?_).mono ?_;· intro ds' es' v X w2 h' hv hD2 hF2 hg hE hX;rw [r1] at h';cases h';rw [h.neg] at hD2 ⊢;exact expSets_all cb D neg ds es X v nd w2 _ r3 hE hD2 prec traps rr (hC w2 hF2) hnd hnd' (hN D 0 neg 0 v w2 hD2 hv (hTx w2 hF2))
 · intro en w' h';unfold NumEnd at h';rw [r1, h.neg] at h';exact ⟨es, r2, r3, h'⟩
theorem varsX_of_laid {w : World} {x0 x1 x2 : String × DataW Unit} {r : List (String × DataW Unit)} {t1 t2 t3 : List UInt8}
 (h : laidMet Tryz.prog (x0 :: x1 :: x2 :: ("unicode/utf8.acceptRanges", acceptData) :: ("strconv.ErrRange", .iface "*errors.errorString" (.ptr (.agg [.lit (.string t1)]))) :: ("strconv.ErrSyntax", .iface "*errors.errorString" (.ptr (.agg [.lit (.string t2)]))) :: ("io.EOF", .iface "*errors.errorString" (.ptr (.agg [.lit (.string t3)]))) :: r) w)
 (h1 : VarReads Tryz.prog w "unicode.CaseRanges" Go.Pinned.caseRanges) (h2 : VarReads Tryz.prog w "unicode/utf8.first" Go.Pinned.utf8First) :
 ∃ a pS pR, VarsX w a 147 147 pS pR := by
 obtain ⟨aR, hR⟩ := sentinel h.tail.tail.tail.tail (g := 3) (by kernel_rfl) (by kernel_rfl);obtain ⟨aS, hS⟩ := sentinel h.tail.tail.tail.tail.tail (g := 2) (by kernel_rfl) (by kernel_rfl);obtain ⟨a, hE⟩ := sentinel h.tail.tail.tail.tail.tail.tail (g := 5) (by kernel_rfl) (by kernel_rfl);refine ⟨a, _, _, case_of_laid h1, u8_of_laid h2 (Lib.laidMet.reads h (.tail _ (.tail _ (.tail _ (.head _))))), ?_, hS, hR⟩;exact World.var?_cell (n := "io.EOF") (by kernel_rfl) hE 0
end Go.Proofs.YteokhhepnoelhaaGreatDoor
