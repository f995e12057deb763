/-
  (*Decimal).setString at every text that has no n in it: where it fails, and what it reads.
-/
import Derived.Test.YteokhhepnoelhaaGreatDoorXaq
import Derived.Test.YteokhhepnoelhaaGreatDoorXas
import Derived.Deep.DeepAppendRoom
import Derived.Deep.QuietTactic
import Derived.BigQuiet
import Derived.Maps.AppendAt
import Derived.Lib.SmallJoins
import Derived.Laws.OwnMore
import Derived.Shelf.Strings.CaseAny
set_option linter.unusedVariables false
set_option linter.unusedSimpArgs false
namespace Go.Proofs.YteokhhepnoelhaaGreatDoor
open Go.RowKit
def FailEnd (w : World) (D : Nat) (e : Ending) (w' : World) : Prop := (∃ p, e = .returned (.tuple #[.int .u32 0, .iface 147 (.pointer (some p))])) ∧ Fr (fun i => i = D) w w'
theorem no_prefix {l p : List UInt8} {c : UInt8} (hc : c ∈ p) (h : c ∉ l) : Lib.hasPrefix l p = false := by
 cases hh : Lib.hasPrefix l p with
 | false => rfl
 | true =>
  unfold Lib.hasPrefix at hh;exact absurd ((List.isPrefixOf_iff_prefix.1 hh).subset hc) h
theorem errorsNew (s : ByteArray) (w : World) : Calls Tryz.prog 55 #[.string s] w fun e w' => (∃ p, e = .returned (.iface 147 (.pointer (some p)))) ∧ Fr NoB w w' := by
 go_enter Tryz.func55, Tryz.ntmps55;go_wp2
 go_ret;exact ⟨⟨_, rfl⟩, (Fr.refl _ _).alloc _⟩
theorem fitsSum (c : List UInt8) (l : List UInt8) (hc : c.length ≤ 1000) (hl : l.length ≤ 1000) : ¬ ((ByteArray.mk c.toArray).size + (ByteArray.mk l.toArray).size > 9223372036854775807) := by
 rw [str_size, str_size]; omega
theorem indexByte_none {l : List UInt8} {c : UInt8} (h : c ∉ l) : Lib.indexByte l c = -1 := by
 induction l with
 | nil => rfl
 | cons b l ih =>
  simp only [List.mem_cons, not_or] at h;have hb : (b == c) = false := by simpa using fun hh : b = c => h.1 hh.symm
  simp [Lib.indexByte, hb, ih h.2]
theorem indexByte_some {l : List UInt8} {c : UInt8} (h : c ∈ l) : Lib.indexByte l c = (l.takeWhile (· != c)).length ∧ (l.takeWhile (· != c)).length < l.length := by
 induction l with
 | nil => simp at h
 | cons b l ih =>
  by_cases hb : b = c;· subst hb;simp [Lib.indexByte]
  · have hbb : (b == c) = false := by simpa using hb
    have hm : c ∈ l := by
     simp only [List.mem_cons] at h;exact h.resolve_left (fun hh => hb hh.symm)
    obtain ⟨h1, h2⟩ := ih hm;have hne : (Lib.indexByte l c == -1) = false := by rw [h1, beq_eq_false_iff_ne]; omega
    simp only [Lib.indexByte, hbb, hne, Bool.false_eq_true, if_false];have hbc : (b != c) = true := by simpa using hb
    rw [List.takeWhile_cons_of_pos (p := fun x => x != c) hbc, h1];simp only [List.length_cons];omega
def ExpsAt (w : World) (B X : Nat) (es : List Int) : Prop := w.ownsRow B 2 1 (.slice (some ⟨X, 0, none⟩) es.length 2) es.length (es.map (fun e => .int .i64 e))
theorem Tryz.info2 : ∃ i, Tryz.prog.info? 2 = some i ∧ i.size = 1 := by
 have h : (Tryz.prog.info? 2).map (fun i => i.size) = some 1 := by kernel_rfl
 obtain ⟨j, hj, hs⟩ := Option.map_eq_some_iff.1 h;exact ⟨j, hj, hs⟩
theorem ExpsAt.keep {w w' : World} {B X : Nat} {es : List Int} (h : ExpsAt w B X es) (hk : w'.heap[X]? = w.heap[X]?) : ExpsAt w' B X es := by
 refine ⟨h.1, ?_⟩;rcases h.2 with ⟨h1, _⟩ | ⟨g, cap, cur, hv, hb, hg, r⟩
 · cases h1
 · have hx := hv;simp only [Value.slice.injEq, Option.some.injEq, Addr.mk.injEq] at hx;obtain ⟨⟨rfl, _⟩, _, rfl⟩ := hx;exact .inr ⟨X, 2, cur, hv, hb, hk.trans hg, r⟩
theorem ExpsAt.lt {w : World} {B X : Nat} {es : List Int} (h : ExpsAt w B X es) : B ≤ X ∧ X < w.heap.size := by
 rcases h.2 with ⟨h1, _⟩ | ⟨g, cap, cur, hv, hb, hg, r⟩
 · cases h1
 · have hx := hv;simp only [Value.slice.injEq, Option.some.injEq, Addr.mk.injEq] at hx;obtain ⟨⟨rfl, _⟩, _, rfl⟩ := hx;exact ⟨hb, blk_lt hg⟩
theorem ExpsAt.fr {w w' : World} {S : Nat → Prop} {B X : Nat} {es : List Int} (h : ExpsAt w B X es) (hF : Fr S w w') (hS : ¬ S X) : ExpsAt w' B X es :=
 h.keep (hF.block X h.lt.2 hS)
theorem ExpsAt.cell {w : World} {B X : Nat} {es : List Int} (h : ExpsAt w B X es) (i : Nat) (e : Int) (he : es[i]? = some e) : w.cell? ⟨X, i, none⟩ = some (.int .i64 e) := by
 have hlt : i < es.length := (List.getElem?_eq_some_iff.1 he).1;rw [World.ownsRow.cellAt h i (by omega), List.getElem?_map, he];rfl
theorem Fr.grown {w w' : World} {X : Nat} (h : w.grownBy w' (some X)) : Fr (fun i => i = X) w w' :=
 ⟨h.os, h.tape, h.output, h.size, fun k hk hn => h.block k hk (fun hh => hn (Option.some.inj hh))⟩
theorem Fr.bytes {w w' : World} (h : w' = w ∨ ∃ t, w' = Lib.bytesWorld w 5 t) : Fr NoB w w' := by
 rcases h with rfl | ⟨t, rfl⟩
 · exact Fr.refl _ _
 · exact Fr.of_below (Go.Joins.below_bytesWorld _ _ _ _ (Nat.le_refl _)) _
def readE (low : List UInt8) : Option (List UInt8 × List Int) :=
 if (101 : UInt8) ∈ low then
  match Lib.parseIntB 32 (low.drop ((low.takeWhile (· != 101)).length + 1)) with
  | .ok v => some (low.takeWhile (· != 101), [v])
  | _ => none
 else some (low, [])
theorem takeWhile_take {low : List UInt8} {k : Nat} {p : UInt8 → Bool} (h : k = (low.takeWhile p).length) : low.takeWhile p = low.take k := by
 subst h;exact (List.prefix_iff_eq_take.1 (List.takeWhile_prefix p))
def HalfAt (w : World) (D : Nat) (neg : Bool) (low m : List UInt8) (es : List Int) (X : Nat) (wx : World) : Prop :=
 readE low = some (m, es) ∧ es.length ≤ 1 ∧ DecAt wx D 3 neg 0 false (.slice none 0 0) false ∧ Fr (fun i => i = D) w wx ∧ ExpsAt wx w.heap.size X es
def readDot (m : List UInt8) (es : List Int) : List UInt8 × List Int :=
 if (46 : UInt8) ∈ m then (m.take (m.takeWhile (· != 46)).length ++ m.drop ((m.takeWhile (· != 46)).length + 1), es ++ [-((m.length : Int) - ((m.takeWhile (· != 46)).length : Int) - 1)])
 else (m, es)
def digB (b : UInt8) : Bool := decide (48 ≤ b.toNat) && decide (b.toNat ≤ 57)
def readLow (low : List UInt8) : Option (List UInt8 × List Int) :=
 match readE low with
 | none => none
 | some (m, es) => if (readDot m es).1 ≠ [] ∧ (readDot m es).1.all digB = true then some (readDot m es) else none
theorem Digs.of_all {l : List UInt8} (h : l.all digB = true) : Digs l := by
 intro b hb;have := List.all_eq_true.1 h b hb;simpa [digB] using this
theorem ba_append (a b : List UInt8) : ByteArray.mk a.toArray ++ ByteArray.mk b.toArray = ⟨(a ++ b).toArray⟩ := by
 apply ByteArray.ext;simp
def DotAt (w : World) (D : Nat) (neg : Bool) (m : List UInt8) (es : List Int) (X : Nat) (wx : World) : Prop :=
 DecAt wx D 3 neg 0 false (.slice none 0 0) false ∧ Fr (fun i => i = D) w wx ∧ ExpsAt wx w.heap.size X (readDot m es).2
def GoodEnd (w : World) (D : Nat) (neg : Bool) (ds : List UInt8) (es : List Int) (e : Ending) (w' : World) : Prop :=
 e = .returned (.tuple #[.int .u32 0, .nilIface]) ∧ ∃ v, NatAt w' v (limbs (decVal ds)) ∧ DecAt w' D 0 neg es.sum false v false ∧ Fr (fun i => i = D) w w' ∧ ∀ g, natBlk v = some g → w.heap.size ≤ g
def NumEnd (w : World) (D : Nat) (neg : Bool) (low : List UInt8) (e : Ending) (w' : World) : Prop :=
 match readLow low with
 | none => FailEnd w D e w'
 | some (ds, es) => GoodEnd w D neg ds es e w'
def ExpSets (cb D : Nat) (neg : Bool) (ds : List UInt8) (es : List Int) (X : Nat) (w1 : World) : Prop :=
 Calls Tryz.prog 60 #[.pointer (some ⟨D, 0, none⟩), .pointer (some ⟨cb, 0, none⟩), .int .i64 (-1), .int .u32 0, .slice (some ⟨X, 0, none⟩) es.length 2] w1
  fun e w' => e = .returned (.int .u32 0) ∧ ∃ w2, Fr NoB w1 w2 ∧ w' = w2.setCell ⟨D, 2, none⟩ (.int .i32 es.sum)
set_option maxRecDepth 100000 in
set_option maxHeartbeats 1000000 in
theorem setString_num (D cb : Nat) (n0 : Bool) (l low : List UInt8) (w : World) (hD : DecAt w D 0 n0 0 false (.slice none 0 0) false) (hT : LowerAt w D l low) (hl : l.length ≤ 1000)
 (hs1 : Lib.hasPrefix low [45] = false) (hs2 : Lib.hasPrefix low [43] = false) (hn : (110 : UInt8) ∉ low) (hll : low.length ≤ 250)
 (tpS tpR : TypeId) (pS pR : Value) (hvS : ∀ wx, Fr (fun i => i = D) w wx → wx.var? Tryz.prog "strconv.ErrSyntax" = some #[.iface tpS pS]) (hvR : ∀ wx, Fr (fun i => i = D) w wx → wx.var? Tryz.prog "strconv.ErrRange" = some #[.iface tpR pR])
 (h5D : 5 ≠ D) (a : Addr) (hE : EofAt w a)
 (hK : ∀ ds es v X w1, readLow low = some (ds, es) → NatAt w1 v (limbs (decVal ds)) → DecAt w1 D 0 (Lib.hasPrefix l [45]) 0 false v false → Fr (fun i => i = D) w w1 → (∀ g, natBlk v = some g → w.heap.size ≤ g) → ExpsAt w1 w.heap.size X es → X ≠ D → ExpSets cb D (Lib.hasPrefix l [45]) ds es X w1) :
 Calls Tryz.prog 41 #[.pointer (some ⟨D, 0, none⟩), .pointer (some ⟨cb, 0, none⟩), .string ⟨l.toArray⟩] w (NumEnd w D (Lib.hasPrefix l [45]) low) := by
 obtain ⟨⟨h0, h1, h2, h3, h4, h5⟩, f0, f1, f2, f3, f4, f5⟩ := hD.cells;have HD := hid hD; clear hD;have HT := hid hT; clear hT;have HE := hid hE; clear hE;have HKK := hid hK; clear hK;have HVS := hid hvS; have HVR := hid hvR; clear hvS hvR;have HS1 := hid hs1; have HS2 := hid hs2; have HN := hid hn; clear hs1 hs2 hn;go_enter Tryz.func41, Tryz.ntmps41;go_upto_if 36 with (go_at_call 51; refine (consumePrefix_any _ _ _).mono ?_; rintro e w1 ⟨rfl, rfl⟩)
 go_cut [2] (fun s2 wx => s2 = .string ⟨(unsign l).toArray⟩ ∧ wx = w.setCell ⟨D, 1, none⟩ (.bool (Lib.hasPrefix l [45])));case first =>
  cases hm : Lib.hasPrefix l [45] with
  | true =>
   have HM := hid hm; clear hm;go_wp2_with fail;go_meet;exact ⟨by rw [unsign_minus HM.out], by rw [HM.out]⟩
  | false =>
   have HM := hid hm; clear hm;go_wp2_with (go_at_call 51; refine (consumePrefix_any _ _ _).mono ?_; rintro e w1 ⟨rfl, rfl⟩);go_meet;exact ⟨by rw [unsign_else HM.out], by rw [HM.out]⟩
 case rest =>
  obtain ⟨rfl, rfl⟩ := hcut;have hT := HT.out;unfold LowerAt at hT;generalize Lib.hasPrefix l [45] = neg at *
  clear h0 h1 h2 h3 h4 h5 f0 f1 f2 f3 f4 f5 HT;go_wp2_with fail;refine hT.mono ?_;clear hT;rintro e w1 ⟨rfl, hb⟩;have hF : Fr (fun i => i = D) w w1 := Fr.trans (Fr.setCell (S := fun i => i = D) (Fr.refl _ w) (p := ⟨D, 1, none⟩) (fun _ => rfl) (.bool neg)) hb (fun _ _ h => h.elim);have hD1 : DecAt w1 D 0 neg 0 false (.slice none 0 0) false := (HD.out.set1 neg).fr hb (fun h => h);clear hb;obtain ⟨⟨h0, h1, h2, h3, h4, h5⟩, f0, f1, f2, f3, f4, f5⟩ := hD1.cells;have hinf : (low == [105, 110, 102]) = false := by rw [beq_eq_false_iff_ne]; exact fun h => HN.out (by rw [h]; simp)
  have hinf2 : (low == [105, 110, 102, 105, 110, 105, 116, 121]) = false := by rw [beq_eq_false_iff_ne]; exact fun h => HN.out (by rw [h]; simp)
  have hp1 : Lib.hasPrefix low [110, 97, 110] = false := no_prefix (c := 110) (by simp) HN.out;have hp2 : Lib.hasPrefix low [115, 110, 97, 110] = false := no_prefix (c := 110) (by simp) HN.out;have HP1 := hid hp1; have HP2 := hid hp2; have HQ1 := hid (cutp_no hp1); have HQ2 := hid (cutp_no hp2);clear hp1 hp2;have HD1 := hid hD1; have HF := hid hF;clear hD1 hF;have hm2 : ∀ w, (Instr.makeSlice 115 (.int .i64 0) (.int .i64 2)).run Tryz.prog w = .ok (.slice (some ⟨w.heap.size, 0, none⟩) 0 2) (w.alloc (.cells #[.int .i64 0, .int .i64 0] 2)) := fun _ => by kernel_rfl
  go_upto_if 100 with (first | (go_at_call 53; go_in) | (go_at_call 81; go_in) | (go_at_call 122; go_in) | (go_at_call 162; go_in) | (go_at_call 54; refine (Tryz.strings_HasPrefix _ _ _).mono ?_; rintro e w2 ⟨rfl, rfl⟩; first | rw [HS1.out] | rw [HS2.out]) | (go_at_call 51; refine (consumePrefix_any _ _ _).mono ?_; rintro e w2 ⟨rfl, rfl⟩; first | rw [HP1.out, HQ1.out] | rw [HP2.out, HQ2.out]) | (go_at_call 57; refine (Tryz.strings_IndexByte _ _ _).mono ?_; rintro e w2 ⟨rfl, rfl⟩))
  clear h0 h1 h2 h3 h4 h5 f0 f1 f2 f3 f4 f5 hinf hinf2 HP1 HP2 HQ1 HQ2 HS1 HS2;have HD2 := hid ((((((HD1.out.set2 0).set5 false).set4 (.slice none 0 0)).set3 false).set0 3));have hF2 : Fr (fun i => i = D) w (((((w1.setCell ⟨D, 2, none⟩ (.int .i32 0)).setCell ⟨D, 5, none⟩ (.bool false)).setCell ⟨D, 4, none⟩ (.slice none 0 0)).setCell ⟨D, 3, none⟩ (.bool false)).setCell ⟨D, 0, none⟩ (.int .i8 3)) := by
   repeat' (first | (with_reducible exact HF.out) | refine Fr.setCell (S := fun i => i = D) ?_ (fun _ => rfl) _)
  have HF2 := hid hF2;clear hF2;have hWs : (((((w1.setCell ⟨D, 2, none⟩ (.int .i32 0)).setCell ⟨D, 5, none⟩ (.bool false)).setCell ⟨D, 4, none⟩ (.slice none 0 0)).setCell ⟨D, 3, none⟩ (.bool false)).setCell ⟨D, 0, none⟩ (.int .i8 3)).heap.size = w1.heap.size := by simp
  have HWS := hid hWs;clear hWs;generalize hW : (((((w1.setCell ⟨D, 2, none⟩ (.int .i32 0)).setCell ⟨D, 5, none⟩ (.bool false)).setCell ⟨D, 4, none⟩ (.slice none 0 0)).setCell ⟨D, 3, none⟩ (.bool false)).setCell ⟨D, 0, none⟩ (.int .i8 3)) = W at *
  clear hW HD1 HF;have hX0 : ExpsAt (W.alloc (.cells #[.int .i64 0, .int .i64 0] 2)) w.heap.size w1.heap.size [] := by
   rw [← HWS.out];exact ⟨rfl, .inr ⟨W.heap.size, 2, #[.int .i64 0, .int .i64 0], rfl, HF2.out.size, blk_new W _, by simp, by decide, rfl, rfl⟩⟩
  have HX0 := hid hX0;have HD3 := hid (show DecAt (W.alloc (.cells #[.int .i64 0, .int .i64 0] 2)) D 3 neg 0 false (.slice none 0 0) false from blk_alloc HD2.out (.cells #[.int .i64 0, .int .i64 0] 2));have HF3 := hid (HF2.out.alloc (.cells #[.int .i64 0, .int .i64 0] 2));have HXD := hid (show w1.heap.size ≠ D by have := blk_lt HD2.out; rw [HWS.out] at this; omega);clear HD2 HF2 hX0 HWS;generalize hW3 : W.alloc (.cells #[.int .i64 0, .int .i64 0] 2) = W3 at *
  generalize hXX : w1.heap.size = X at *
  clear hW3 hXX;generalize hix : Lib.indexByte low 101 = ix at *
  have HIX := hid hix;clear hix;go_cut [2, 13, 100] (fun s2 s13 s100 wx => ∃ m es, s2 = .string ⟨m.toArray⟩ ∧ s13 = .slice (some ⟨X, 0, none⟩) es.length 2 ∧ Hid (HalfAt w D neg low m es X wx));case first =>
   by_cases he : (101 : UInt8) ∈ low
   · obtain ⟨hi1, hi2⟩ := indexByte_some he;rw [HIX.out] at hi1;obtain ⟨k, hk⟩ : ∃ k, k = (low.takeWhile (· != 101)).length := ⟨_, rfl⟩
     rw [← hk] at hi1 hi2;subst hi1;have HK := hid hk;clear hk;have hib : decide (0 ≤ (k : Int)) = true := by simp
     have hk1 : ((k : Int) + 1).toNat = k + 1 := by omega
     have hbk : (k : Int) + 1 ≤ 1000 := by omega
     have hbl : (k : Int) + 1 ≤ (low.length : Int) := by omega
     have hdr := str_drop low (k + 1);have htk : (ByteArray.mk low.toArray).extract 0 k = ⟨(low.take k).toArray⟩ := by rw [str_extract low 0 k (by omega), List.drop_zero]
     have HTK := hid htk;clear htk;have hsz := str_size low;have hdl : (low.drop (k + 1)).length ≤ 1000 := by rw [List.length_drop]; omega
     cases hp : Lib.parseIntB 32 (low.drop (k + 1)) with
     | ok v =>
      have HPI := hid (Tryz.strconv_ParseInt_10_at32_ok ⟨(low.drop (k + 1)).toArray⟩ (by rw [str_size]; omega) v hp W3);have HRE := hid (show readE low = some (low.take k, [v]) by
       unfold readE;rw [if_pos he, ← HK.out, hp];simp only [takeWhile_take HK.out])
      go_wp2_with (go_at_call 58; refine HPI.out.mono ?_; rintro e w2 ⟨rfl, hw2⟩; refine Hid.out ?_);refine hid ?_;have hF4 := Fr.bytes hw2;have HD4 := hid (HD3.out.fr hF4 (fun h => h));have HX4 := hid (HX0.out.fr hF4 (fun h => h));have HF4 := hid (HF3.out.trans hF4 (fun _ _ h => h.elim));clear hw2 hF4 HD3 HX0 HF3 HPI hdr hdl hp;obtain ⟨i2, hi2, hs2⟩ := Tryz.info2;have HI := hid hi2;clear hi2;go_wp2_with (at_builtin; refine wpList_append_own_spare _ rfl _ _ 115 rfl w.heap.size 2 i2 1 Tryz.underlying115 HI.out hs2 X 0 2 [] rfl (HX4.out.keep (Below.heap_alloc _ _ _ HX4.out.lt.2)) ⟨_, 0, none⟩ 1 1 [.int .i64 v] rfl rfl (cell_one_new _ _ _) (by simp [Value.oneCell']) (by omega) ?_; intro w5 hown hgr; refine Hid.out ?_);refine hid ?_;have hX5 : ExpsAt w5 w.heap.size X [v] := hown;have hF5 := Fr.trans (S := fun i => i = X) ((Fr.refl _ w2).alloc (.cells #[.int .i64 v] 2)) (Fr.grown hgr) (fun _ _ h => h);have hXge := HX4.out.lt.1;have HD5 := hid (HD4.out.fr hF5 (fun h => HXD.out h.symm));have HF5 := hid (HF4.out.trans hF5 (fun i hi (h : i = X) => by omega));have HX5 := hid hX5;clear hX5 hF5 hown hgr HD4 HX4 HF4;go_wp2_with fail;go_meet;exact ⟨low.take k, [v], by rw [HTK.out], rfl, hid ⟨HRE.out, by simp, HD5.out, HF5.out, HX5.out⟩⟩
     | range =>
      have hRN : readLow low = none := by
       unfold readLow readE;rw [if_pos he, ← HK.out, hp]
      have HPI := hid (Any.strconv_ParseInt_10_at32_range_var Tryz.laysC174 ⟨(low.drop (k + 1)).toArray⟩ (by rw [str_size]; omega) hp tpR pR W3 (HVR.out W3 HF3.out));go_wp2_with (go_at_call 58; refine HPI.out.mono ?_; rintro e w2 ⟨N, rfl, _, _, hb2⟩; refine Hid.out ?_);refine hid ?_;have HF4 := hid (HF3.out.trans (Fr.of_below hb2 NoB) (fun _ _ h => h.elim));clear hb2 HPI hp hdr hdl;go_wp2_with (go_at_call 55; refine (errorsNew _ _).mono ?_; rintro e w3 ⟨⟨p, rfl⟩, hF5⟩; refine Hid.out ?_);refine hid ?_;have FIN := hid (HF4.out.trans hF5 (fun _ _ h => h.elim));clear hF5;go_wp2_with fail;go_ret2;have HRN := hRN;unfold NumEnd;rw [HRN];exact ⟨⟨_, rfl⟩, FIN.out⟩
     | _ =>
      have hRN : readLow low = none := by
       unfold readLow readE;rw [if_pos he, ← HK.out, hp]
      have HPI := hid (Any.strconv_ParseInt_10_at32_syntax_var Tryz.laysC174 ⟨(low.drop (k + 1)).toArray⟩ (by rw [str_size]; omega) hp tpS pS W3 (HVS.out W3 HF3.out));go_wp2_with (go_at_call 58; refine HPI.out.mono ?_; rintro e w2 ⟨N, rfl, _, _, hb2⟩; refine Hid.out ?_);refine hid ?_;have HF4 := hid (HF3.out.trans (Fr.of_below hb2 NoB) (fun _ _ h => h.elim));clear hb2 HPI hp hdr hdl;go_wp2_with (go_at_call 55; refine (errorsNew _ _).mono ?_; rintro e w3 ⟨⟨p, rfl⟩, hF5⟩; refine Hid.out ?_);refine hid ?_;have FIN := hid (HF4.out.trans hF5 (fun _ _ h => h.elim));clear hF5;go_wp2_with fail;go_ret2;have HRN := hRN;unfold NumEnd;rw [HRN];exact ⟨⟨_, rfl⟩, FIN.out⟩
   · have hi : ¬ (0 ≤ ix) := by have := indexByte_none he; rw [HIX.out] at this; omega
     have hib : decide (0 ≤ ix) = false := by simp [hi]
     go_wp2_with fail;go_meet;exact ⟨low, [], rfl, rfl, hid ⟨by simp [readE, he], by simp, HD3.out, HF3.out, HX0.out⟩⟩
  case rest =>
   obtain ⟨m, es, rfl, rfl, hH⟩ := hcut;obtain ⟨hre, hes, hD4, hF4, hX4⟩ := hH.out;have hml : m.length ≤ 250 := by
    unfold readE at hre;split at hre
    · split at hre
      · simp only [Option.some.injEq, Prod.mk.injEq] at hre;have := (List.takeWhile_prefix (l := low) (fun x => x != 101)).length_le;rw [hre.1] at this;omega
      · cases hre
    · simp only [Option.some.injEq, Prod.mk.injEq] at hre;rw [← hre.1]; exact hll
   have HRE := hid hre; have HD4 := hid hD4; have HF4 := hid hF4; have HX4 := hid hX4; have HML := hid hml;clear hre hD4 hF4 hX4 hH;go_upto_if 122 with (go_at_call 57; refine (Tryz.strings_IndexByte _ _ _).mono ?_; rintro e w2 ⟨rfl, rfl⟩)
   generalize hix : Lib.indexByte m 46 = ix at *
   have HIX := hid hix;clear hix;go_cut [2, 13, 122] (fun s2 s13 s122 wx => s2 = .string ⟨(readDot m es).1.toArray⟩ ∧ s13 = .slice (some ⟨X, 0, none⟩) (readDot m es).2.length 2 ∧ Hid (DotAt w D neg m es X wx));case first =>
    by_cases he : (46 : UInt8) ∈ m
    · obtain ⟨hi1, hi2⟩ := indexByte_some he;rw [HIX.out] at hi1;obtain ⟨k, hk⟩ : ∃ k, k = (m.takeWhile (· != 46)).length := ⟨_, rfl⟩
      rw [← hk] at hi1 hi2;subst hi1;have hrd : readDot m es = (m.take k ++ m.drop (k + 1), es ++ [-((m.length : Int) - k - 1)]) := by
       unfold readDot;rw [if_pos he, ← hk]
      have HRD := hid hrd;clear hk hrd;have hib : decide (0 ≤ (k : Int)) = true := by simp
      have hk1 : ((k : Int) + 1).toNat = k + 1 := by omega
      have hbk : (k : Int) + 1 ≤ 1000 := by omega
      have hbl : (k : Int) + 1 ≤ (m.length : Int) := by omega
      have hbm : (m.length : Int) ≤ 250 := by omega
      have hdr := str_drop m (k + 1);have htk : (ByteArray.mk m.toArray).extract 0 k = ⟨(m.take k).toArray⟩ := by rw [str_extract m 0 k (by omega), List.drop_zero]
      have hsz := str_size m;have hsum := fitsSum (m.take k) (m.drop (k + 1)) (by rw [List.length_take]; omega) (by rw [List.length_drop]; omega);obtain ⟨i2, hi2', hs2⟩ := Tryz.info2;have HI := hid hi2';clear hi2';go_upto_region 42 with (at_builtin; refine wpList_append_own_spare _ rfl _ _ 115 rfl w.heap.size 2 i2 1 Tryz.underlying115 HI.out hs2 X es.length 2 _ rfl (HX4.out.keep (Below.heap_alloc _ _ _ HX4.out.lt.2)) ⟨_, 0, none⟩ 1 1 [_] rfl rfl (cell_one_new _ _ _) (by simp [Value.oneCell']) (by omega) ?_; intro w5 hown hgr)
      have hX5 : ExpsAt w5 w.heap.size X (es ++ [-((m.length : Int) - k - 1)]) := by
       unfold ExpsAt;rw [List.length_append, List.map_append];exact hown
      have hF5 := Fr.trans (S := fun i => i = X) ((Fr.refl _ w2).alloc (.cells #[.int .i64 (-((m.length : Int) - k - 1))] 2)) (Fr.grown hgr) (fun _ _ h => h);have hXge := HX4.out.lt.1;have HD5 := hid (HD4.out.fr hF5 (fun h => HXD.out h.symm));have HF5 := hid (HF4.out.trans hF5 (fun i hi (h : i = X) => by omega));have HX5 := hid hX5;have HAP := hid (ba_append (m.take k) (m.drop (k + 1)));clear hX5 hF5 hown hgr HD4 HX4 HF4 HI;go_quiet (fail);go_wp2_with fail;go_meet;refine ⟨by rw [HRD.out, HAP.out], by rw [HRD.out]; simp, hid ?_⟩;unfold DotAt;rw [HRD.out];first | exact ⟨HD5.out, HF5.out.drewN _, HX5.out.keep rfl⟩ | exact ⟨HD5.out, HF5.out.drew, HX5.out.keep rfl⟩ | exact ⟨HD5.out, HF5.out, HX5.out⟩
    · have hi : ¬ (0 ≤ ix) := by have := indexByte_none he; rw [HIX.out] at this; omega
      have hib : decide (0 ≤ ix) = false := by simp [hi]
      have hrd : readDot m es = (m, es) := by
       unfold readDot;rw [if_neg he]
      have HRD := hid hrd;clear hrd;go_wp2_with fail;go_meet;exact ⟨by rw [HRD.out], by rw [HRD.out], hid ⟨HD4.out, HF4.out, by rw [HRD.out]; exact HX4.out⟩⟩
   case rest =>
    obtain ⟨rfl, rfl, hG⟩ := hcut;obtain ⟨hD5, hF5, hX5⟩ := hG.out;have HRL := hid (show readLow low = if (readDot m es).1 ≠ [] ∧ (readDot m es).1.all digB = true then some (readDot m es) else none by
     unfold readLow;rw [HRE.out])
    have HD5 := hid hD5; have HF5 := hid hF5; have HX5 := hid hX5;clear hD5 hF5 hX5 hG HIX HD4 HF4 HX4;have hdsl : (readDot m es).1.length ≤ 250 := by
     have hml := HML.out;unfold readDot;split
     · simp only [List.length_append, List.length_take, List.length_drop];omega
     · exact hml
    have HDSL := hid hdsl;clear hdsl HML;generalize readDot m es = de at *
    obtain ⟨ds, es'⟩ := de;dsimp only at *
    have hsz := str_size ds;have BAD : ∀ (b : UInt8) (e : Ending) (w' : World), b ∈ ds → ¬ (48 ≤ b.toNat ∧ b.toNat ≤ 57) → FailEnd w D e w' → NumEnd w D neg low e w' := by
     intro b e w' hb hnd hf;have hRN : readLow low = none := by
      rw [HRL.out, if_neg];rintro ⟨_, h2⟩;exact hnd (Digs.of_all h2 b hb)
     unfold NumEnd;rw [hRN];exact hf
    have HBAD := hid BAD;clear BAD;go_wp2_with fail;go_loopw [20] (fun r wr => ∃ k, k ≤ ds.length ∧ wr = wc.iter ⟨ds.toArray⟩ k ∧ (ds.take k).all digB = true) (fun _ wr => ds.length - wr.iterPos wc.heap.size);case atStart => exact ⟨0, Nat.zero_le _, rfl, rfl⟩
    case round =>
     obtain ⟨k, hk, rfl, hdg⟩ := hrel;have HDG := hid hdg;clear hdg;have HF6 := hid (HF5.out.alloc (.stringIter ⟨ds.toArray⟩ k));by_cases hlt : k < ds.length
     · obtain ⟨b, hb⟩ : ∃ b, ds[k]? = some b := ⟨ds[k], List.getElem?_eq_getElem hlt⟩
       have hlt' : k < (ByteArray.mk ds.toArray).size := by rw [str_size]; exact hlt
       have hg := str_get ds k b hb hlt';have hmem := List.mem_of_getElem? hb;by_cases h128 : b.toNat < 128
       · have hnx : ∀ ty, (Instr.next (.pointer (some ⟨wc.heap.size, 0, none⟩)) true ty).run Tryz.prog (wc.iter ⟨ds.toArray⟩ k) = .ok (.tuple #[.bool true, .int .i64 k, .int .i32 b.toNat]) (wc.iter ⟨ds.toArray⟩ (k + 1)) := fun ty => by
          have := run_next_ascii (P := Tryz.prog) wc ⟨ds.toArray⟩ k ty hlt' (by rw [hg]; exact h128);rw [hg] at this;exact this
         have HB := hid hb; have HM := hid hmem;clear hb hmem hg hlt';by_cases hd : 48 ≤ b.toNat ∧ b.toNat ≤ 57
         · have b1 : ¬ ((b.toNat : Int) < 48) := by omega
           have b2 : ¬ ((57 : Int) < (b.toNat : Int)) := by omega
           clear h128;go_wp2_with fail;go_roundw;case rel =>
            refine ⟨k + 1, by omega, rfl, ?_⟩;rw [List.take_add_one, HB.out, List.all_append, HDG.out];simp [digB, hd]
           case measure => simp; omega
         · have HND := hid hd;have b3 : (b.toNat : Int) < 48 ∨ (57 : Int) < (b.toNat : Int) := by omega
           clear hd;have HFX := hid (show ∀ w3, Fr NoB (wc.iter ⟨ds.toArray⟩ (k + 1)) w3 → Fr (fun i => i = D) w w3 from fun w3 h => (HF5.out.alloc (.stringIter ⟨ds.toArray⟩ (k + 1))).trans h (fun _ _ h => h.elim));rcases b3 with b3 | b3;· go_wp2_with (go_at_call 55; refine (errorsNew _ _).mono ?_; rintro e w3 ⟨⟨p, rfl⟩, hF7⟩; refine Hid.out ?_);refine hid ?_;have FIN := hid (HBAD.out b _ w3 HM.out HND.out ⟨⟨p, rfl⟩, HFX.out w3 hF7⟩);clear hF7;go_wp2_with fail;go_ret2;exact FIN.out
           · have b4 : ¬ ((b.toNat : Int) < 48) := by omega
             go_wp2_with (go_at_call 55; refine (errorsNew _ _).mono ?_; rintro e w3 ⟨⟨p, rfl⟩, hF7⟩; refine Hid.out ?_);refine hid ?_;have FIN := hid (HBAD.out b _ w3 HM.out HND.out ⟨⟨p, rfl⟩, HFX.out w3 hF7⟩);clear hF7;go_wp2_with fail;go_ret2;exact FIN.out
       · have hdh := decode_high ⟨ds.toArray⟩ k hlt' (by rw [hg]; omega);have hnx : ∀ ty, (Instr.next (.pointer (some ⟨wc.heap.size, 0, none⟩)) true ty).run Tryz.prog (wc.iter ⟨ds.toArray⟩ k) = .ok (.tuple #[.bool true, .int .i64 k, .int .i32 (Utf8.decode ⟨ds.toArray⟩ k).1]) (wc.iter ⟨ds.toArray⟩ (k + (Utf8.decode ⟨ds.toArray⟩ k).2)) := fun ty =>
          run_next_any (P := Tryz.prog) wc ⟨ds.toArray⟩ k ty hlt'
         generalize (Utf8.decode ⟨ds.toArray⟩ k).1 = r at *
         generalize (Utf8.decode ⟨ds.toArray⟩ k).2 = n at *
         have HM := hid hmem;have HND := hid (show ¬ (48 ≤ b.toNat ∧ b.toNat ≤ 57) by omega);have b3 : ¬ ((r : Int) < 48) := by omega
         have b4 : (57 : Int) < (r : Int) := by omega
         clear hb hmem hg hlt' h128 hdh;have HFX := hid (show ∀ w3, Fr NoB (wc.iter ⟨ds.toArray⟩ (k + n)) w3 → Fr (fun i => i = D) w w3 from fun w3 h => (HF5.out.alloc (.stringIter ⟨ds.toArray⟩ (k + n))).trans h (fun _ _ h => h.elim));go_wp2_with (go_at_call 55; refine (errorsNew _ _).mono ?_; rintro e w3 ⟨⟨p, rfl⟩, hF7⟩; refine Hid.out ?_);refine hid ?_;have FIN := hid (HBAD.out b _ w3 HM.out HND.out ⟨⟨p, rfl⟩, HFX.out w3 hF7⟩);clear hF7;go_wp2_with fail;go_ret2;exact FIN.out
     · have hkl : k = ds.length := by omega
       have hlt' : ¬ k < (ByteArray.mk ds.toArray).size := by rw [str_size]; exact hlt
       have hnx : ∀ ty, (Instr.next (.pointer (some ⟨wc.heap.size, 0, none⟩)) true ty).run Tryz.prog (wc.iter ⟨ds.toArray⟩ k) = .ok (.tuple #[.bool false]) (wc.iter ⟨ds.toArray⟩ k) := fun ty =>
        run_next_end (P := Tryz.prog) wc ⟨ds.toArray⟩ k ty hlt'
       have hall : ds.all digB = true := by have := HDG.out; rw [hkl, List.take_length] at this; exact this
       have HALL := hid hall;have HD6 := hid (show DecAt (wc.iter ⟨ds.toArray⟩ k) D 3 neg 0 false (.slice none 0 0) false from blk_alloc HD5.out _);have HX6 := hid (show ExpsAt (wc.iter ⟨ds.toArray⟩ k) w.heap.size X es' from HX5.out.keep (Below.heap_alloc _ _ _ HX5.out.lt.2));have HE6 := hid (show EofAt (wc.iter ⟨ds.toArray⟩ k) a from HF6.out.cell' HE.out h5D);clear hlt' hall hkl hlt HDG;have HF6x : Hid (Fr (fun i => i = D) w (wc.iter ⟨ds.toArray⟩ k)) := hid HF6.out;clear HF6;have HF6 := HF6x;clear HF6x;generalize wc.iter ⟨ds.toArray⟩ k = W6 at *
       by_cases hne : ds = []
       · subst hne;have HS := hid (coefSetString_empty D 3 neg 0 false (.slice none 0 0) false a W6 HD6.out h5D HE6.out);go_wp2_with fail;refine HS.out.mono ?_;rintro e w7 ⟨rfl, hF7⟩;have HF7 := hid (HF6.out.trans hF7 (fun _ _ h => h));clear hF7 HS hnx;go_wp2_with (go_at_call 55; refine (errorsNew _ _).mono ?_; rintro e w8 ⟨⟨p, rfl⟩, hF8⟩; refine Hid.out ?_);refine hid ?_;have FIN := hid (HF7.out.trans hF8 (fun _ _ h => h.elim));clear hF8;go_wp2_with fail;go_ret2;have hRN : readLow low = none := by rw [HRL.out, if_neg (by simp)]
         unfold NumEnd;rw [hRN];exact ⟨⟨_, rfl⟩, FIN.out⟩
       · have hRN : readLow low = some (ds, es') := by rw [HRL.out, if_pos ⟨hne, HALL.out⟩]
         have hdl : ds.length ≤ 250 := HDSL.out;have HS := hid (coefSetString D 3 neg 0 false ds a W6 HD6.out h5D HE6.out (Digs.of_all HALL.out) hne hdl);have HRN := hid hRN;clear hRN hdl hne;go_wp2_with fail;refine HS.out.mono ?_;rintro e w7 ⟨rfl, v, hN, hD7, hF7, hfr⟩;have hge : ∀ g, natBlk v = some g → w.heap.size ≤ g := fun g hg => by have := hfr g hg; have := HF6.out.size; omega
         have hF8 : Fr (fun i => i = D) w7 (w7.setCell ⟨D, 0, none⟩ (.int .i8 0)) := (Fr.refl (fun i => i = D) w7).setCell (fun _ => rfl) _;have hDlt : D < w.heap.size := blk_lt HD.out;have hnD : ∀ g, natBlk v = some g → ¬ g = D := fun g hg h => by have := hge g hg; omega
         have hN8 := hN.fr hF8 hnD;have hF87 := (HF6.out.trans hF7 (fun _ _ h => h)).trans hF8 (fun _ _ h => h);have hX8 : ExpsAt (w7.setCell ⟨D, 0, none⟩ (.int .i8 0)) w.heap.size X es' := ((HX6.out.fr hF7 HXD.out)).fr hF8 HXD.out;have HK8 := hid (HKK.out ds es' v X _ HRN.out hN8 (hD7.set0 0) hF87 hge hX8 HXD.out);obtain ⟨⟨q0, q1, q2, q3, q4, q5⟩, g0, g1, g2, g3, g4, g5⟩ := hD7.cells;have HN8 := hid hN8; have HF87 := hid hF87; have HGE := hid hge; have HD8 := hid (hD7.set0 0); have HND := hid hnD;clear hN hD7 hF7 hfr hge hF8 hN8 hF87 hX8 HS hnD;go_wp2_with (go_at_call 60; refine HK8.out.mono ?_; rintro e w9 ⟨rfl, w10, hF10, rfl⟩; refine Hid.out ?_);refine hid ?_;have hD9 := (HD8.out.fr hF10 (fun h => h)).set2 es'.sum;have hFin : Fr (fun i => i = D) w (w10.setCell ⟨D, 2, none⟩ (.int .i32 es'.sum)) := (HF87.out.trans hF10 (fun _ _ h => h.elim)).setCell (fun _ => rfl) _;have hNf := (HN8.out.fr hF10 (fun _ _ h => h)).fr ((Fr.refl (fun i => i = D) w10).setCell (p := ⟨D, 2, none⟩) (fun _ => rfl) (.int .i32 es'.sum)) HND.out;have FIN := hid (show ∃ v', NatAt (w10.setCell ⟨D, 2, none⟩ (.int .i32 es'.sum)) v' (limbs (decVal ds)) ∧ DecAt (w10.setCell ⟨D, 2, none⟩ (.int .i32 es'.sum)) D 0 neg es'.sum false v' false ∧ Fr (fun i => i = D) w (w10.setCell ⟨D, 2, none⟩ (.int .i32 es'.sum)) ∧ ∀ g, natBlk v' = some g → w.heap.size ≤ g from ⟨v, hNf, hD9, hFin, HGE.out⟩);clear hD9 hFin hNf hF10 HK8;go_wp2_with (go_at_call 43; go_in);go_ret2;unfold NumEnd;rw [HRN.out];exact ⟨rfl, FIN.out⟩
end Go.Proofs.YteokhhepnoelhaaGreatDoor
namespace Go.Proofs.YteokhhepnoelhaaGreatDoor
open Go.Lib
def rowLow (x : CaseRow) : Bool := decide (x.2.1 < 128) || (if x.2.2.2.1 > 1114111 then decide (128 ≤ x.1) else (decide (128 ≤ (x.1 : Int) + x.2.2.2.1) || (decide (x.1 = x.2.1) && (decide ((x.1 : Int) + x.2.2.2.1 = 105) || decide ((x.1 : Int) + x.2.2.2.1 = 107)))))
theorem rowLow_all : caseT.all rowLow = true := by as_aux_lemma => kernel_rfl
theorem rowLow_at (i : Nat) (h : i < caseA.size) : rowLow (caseA.getD i (0, 0, 0, 0, 0)) = true := by
 have hh : i < caseT.length := by simpa [caseA] using h
 have := List.all_eq_true.1 rowLow_all (caseT[i]) (List.getElem_mem hh);simpa [caseA, hh] using this
theorem toLowerU_high (r : Nat) (h : 128 ≤ r) (hm : r ≤ 1114111) : 128 ≤ toLowerU r ∨ toLowerU r = 105 ∨ toLowerU r = 107 := by
 unfold toLowerU;rw [if_neg (by omega)];unfold toR lookupGo;cases hi : lookupIdx caseA r (caseA.size + 1) 0 caseA.size with
 | none => left; show (128 : Int) ≤ (r : Int); omega
 | some i =>
  obtain ⟨hil, hlo, hhi⟩ := lookupIdx_some caseA r _ _ _ i hi;have hr := rowLow_at i hil;simp only [Option.map_some];generalize caseA.getD i (0, 0, 0, 0, 0) = x at *
  simp only [rowLow, Bool.or_eq_true, decide_eq_true_eq] at hr;unfold convertR;simp only [CaseRow.delta];rcases hr with hr | hr;· omega
  · split
    · rename_i hg;rw [if_pos hg, decide_eq_true_eq] at hr;left; omega
    · rename_i hg;rw [if_neg hg] at hr;simp only [Bool.or_eq_true, Bool.and_eq_true, decide_eq_true_eq] at hr;omega
theorem encode_high (r : Int) (h : 128 ≤ r) : (∀ c ∈ encodeRune r, 128 ≤ c.toNat) ∧ encodeRune r ≠ [] := by
 have big : ∀ x : Int, 128 ≤ x → x < 256 → 128 ≤ (x.toNat.toUInt8).toNat := by
  intro x h1 h2;have : (x.toNat.toUInt8).toNat = x.toNat := by
   simp; omega
  omega
 unfold encodeRune encodeRuneZ;rw [if_neg (by omega)];split
 · refine ⟨?_, by simp⟩;intro c hc;simp only [List.map_cons, List.map_nil, List.mem_cons, List.not_mem_nil, or_false] at hc;rcases hc with rfl | rfl <;> exact big _ (by omega) (by omega)
 · split
   · refine ⟨?_, by simp⟩;intro c hc;simp only [List.map_cons, List.map_nil, List.mem_cons, List.not_mem_nil, or_false] at hc;rcases hc with rfl | rfl | rfl <;> exact big _ (by omega) (by omega)
   · split
     · refine ⟨?_, by simp⟩;intro c hc;simp only [List.map_cons, List.map_nil, List.mem_cons, List.not_mem_nil, or_false] at hc;rcases hc with rfl | rfl | rfl | rfl <;> exact big _ (by omega) (by omega)
     · refine ⟨?_, by simp⟩;intro c hc;simp only [List.map_cons, List.map_nil, List.mem_cons, List.not_mem_nil, or_false] at hc;rcases hc with rfl | rfl | rfl <;> decide
theorem image_high (r : Nat) (h : 128 ≤ r) (hm : r ≤ 1114111) : (∀ c ∈ (if 0 ≤ toLowerU r then encodeRune (toLowerU r) else []), 128 ≤ c.toNat ∨ c.toNat = 105 ∨ c.toNat = 107) ∧ (if 0 ≤ toLowerU r then encodeRune (toLowerU r) else []) ≠ [] := by
 rw [if_pos (toLowerU_range r hm).1];rcases toLowerU_high r h hm with h1 | h1 | h1;· exact ⟨fun c hc => .inl ((encode_high _ h1).1 c hc), (encode_high _ h1).2⟩
 · rw [h1];have : encodeRune 105 = [105] := by decide
   rw [this];exact ⟨fun c hc => by simp only [List.mem_singleton] at hc; subst hc; exact .inr (.inl rfl), by simp⟩
 · rw [h1];have : encodeRune 107 = [107] := by decide
   rw [this];exact ⟨fun c hc => by simp only [List.mem_singleton] at hc; subst hc; exact .inr (.inr rfl), by simp⟩
theorem decodeL_high (b : UInt8) (t : List UInt8) (h : 128 ≤ b.toNat) : 128 ≤ (decodeL (b :: t)).1 ∧ (decodeL (b :: t)).1 ≤ 1114111 := by
 refine ⟨?_, decodeL_rune _⟩;have hs : 0 < (ByteArray.mk (b :: t).toArray).size := by simp [ByteArray.size]
 have := decode_high ⟨(b :: t).toArray⟩ 0 hs h;exact this.1
theorem lower_mem : ∀ (n : Nat) (l : List UInt8), l.length ≤ n → ∀ c ∈ toLowerD l, 128 ≤ c.toNat ∨ c.toNat = 105 ∨ c.toNat = 107 ∨ ∃ b ∈ l, b.toNat < 128 ∧ c = lowerB b
 | 0, l, hn, c, hc => by
  have : l = [] := List.eq_nil_of_length_eq_zero (by omega);subst this;simp [toLowerD, mapD, mapGoD] at hc
 | n + 1, [], hn, c, hc => by simp [toLowerD, mapD, mapGoD] at hc
 | n + 1, b :: t, hn, c, hc => by
  unfold toLowerD at hc;rw [mapD_step toLowerU (b :: t) (by simp)] at hc;rcases List.mem_append.1 hc with h | h
  · by_cases hb : b.toNat < 128
    · rw [decodeL_ascii b t hb] at h;dsimp only at h;rw [if_pos (toLowerU_range b.toNat (by omega)).1, lower_byte ⟨b.toNat, hb⟩] at h;simp only [List.mem_singleton] at h;refine .inr (.inr (.inr ⟨b, by simp, hb, ?_⟩));rw [h];simp
    · have hd := decodeL_high b t (by omega);rcases (image_high _ hd.1 hd.2).1 c h with h | h | h
      · exact .inl h
      · exact .inr (.inl h)
      · exact .inr (.inr (.inl h))
  · have hw := decodeL_width (b :: t);rcases lower_mem n ((b :: t).drop (decodeL (b :: t)).2) (by rw [List.length_drop]; simp only [List.length_cons] at *; omega) c h with h | h | h | ⟨x, hx, h⟩
    · exact .inl h
    · exact .inr (.inl h)
    · exact .inr (.inr (.inl h))
    · exact .inr (.inr (.inr ⟨x, List.mem_of_mem_drop hx, h⟩))
end Go.Proofs.YteokhhepnoelhaaGreatDoor
namespace Go.Proofs.YteokhhepnoelhaaGreatDoor
open Go.RowKit
theorem mem_unsign {l : List UInt8} {b : UInt8} (h : b ∈ unsign l) : b ∈ l := by
 have hc : ∀ (x p : List UInt8), b ∈ cutp x p → b ∈ x := by
  intro x p hb;unfold cutp at hb;split at hb
  · exact List.mem_of_mem_drop hb
  · exact hb
 unfold unsign at h;split at h
 · exact hc _ _ h
 · exact hc _ _ (hc _ _ h)
theorem lowerB_nat (b : UInt8) (h : b.toNat < 128) : (Lib.lowerB b).toNat = if 65 ≤ b.toNat ∧ b.toNat ≤ 90 then b.toNat + 32 else b.toNat := by
 have key : ∀ i : Fin 128, (Lib.lowerB (UInt8.ofNat i.val)).toNat = if 65 ≤ i.val ∧ i.val ≤ 90 then i.val + 32 else i.val := by decide
 have := key ⟨b.toNat, h⟩;simpa using this
theorem unsign_len (l : List UInt8) : (unsign l).length ≤ l.length := by
 have hc : ∀ (x p : List UInt8), (cutp x p).length ≤ x.length := by
  intro x p;unfold cutp;split
  · rw [List.length_drop]; omega
  · exact Nat.le_refl _
 unfold unsign;split
 · exact hc _ _
 · exact Nat.le_trans (hc _ _) (hc _ _)
theorem no_n (l : List UInt8) (hn : ∀ b ∈ l, b.toNat ≠ 110 ∧ b.toNat ≠ 78) : (110 : UInt8) ∉ Lib.toLowerD (unsign l) := by
 intro h;rcases lower_mem _ (unsign l) (Nat.le_refl _) 110 h with h | h | h | ⟨b, hb, hlt, he⟩
 · exact absurd h (by decide)
 · exact absurd h (by decide)
 · exact absurd h (by decide)
 · have h1 := hn b (mem_unsign hb);have h2 := lowerB_nat b hlt;rw [← he] at h2;have : (110 : UInt8).toNat = 110 := rfl;split at h2 <;> omega
end Go.Proofs.YteokhhepnoelhaaGreatDoor
