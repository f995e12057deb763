/-
  (*big.Int).SetString and apd's (*BigInt).SetString at a text of decimal digits alone, and at the empty text.
-/
import Derived.Test.YteokhhepnoelhaaGreatDoorXar
import Derived.Test.YteokhhepnoelhaaGreatDoorXai
set_option linter.unusedVariables false
set_option linter.unusedSimpArgs false
namespace Go.Proofs.YteokhhepnoelhaaGreatDoor
open Go.RowKit
set_option maxRecDepth 100000 in
set_option maxHeartbeats 1000000 in
theorem scanSign_digit (R : Nat) (l : List UInt8) (b : UInt8) (w : World) (hR : ReaderAt w R l 0 (-1)) (hb : l[0]? = some b) (hd : 48 ≤ b.toNat ∧ b.toNat ≤ 57) (hl : l.length ≤ 250) :
 Calls Tryz.prog 193 #[.iface 184 (.pointer (some ⟨R, 0, none⟩))] w fun e w' => e = .returned (.tuple #[.bool false, .nilIface]) ∧ ReaderAt w' R l 0 (-1) ∧ Fr (fun i => i = R) w w' := by
 have H1 := hid (readByte_in R l 0 (-1) b w hR hb (by omega));have b1 : ((b.toNat : Int) == 45) = false := by simp; omega
 have b2 : ((b.toNat : Int) == 43) = false := by simp; omega
 clear hR hb hd;go_enter Tryz.func193, Tryz.ntmps193;go_wp2_with fail;refine H1.out.mono ?_;rintro e w1 ⟨rfl, hR1, hF1⟩;have H2 := hid (unreadByte R l 0 (-1) w1 hR1 (by omega));have HF1 := hid hF1;clear hR1 hF1 H1;go_wp2_with (go_at_call 350; refine H2.out.mono ?_; rintro e w2 ⟨rfl, hR2, hF2⟩);go_ret2;exact ⟨rfl, hR2, HF1.out.trans hF2 (fun _ _ h => h)⟩
set_option maxRecDepth 100000 in
set_option maxHeartbeats 1000000 in
theorem scanSign_empty (R : Nat) (a : Addr) (w : World) (hR : ReaderAt w R [] 0 (-1)) (hE : EofAt w a) (h5 : 5 ≠ R) :
 Calls Tryz.prog 193 #[.iface 184 (.pointer (some ⟨R, 0, none⟩))] w fun e w' => e = .returned (.tuple #[.bool false, .iface 147 (.pointer (some a))]) ∧ Fr (fun i => i = R) w w' := by
 have H1 := hid (readByte_end R [] (-1) _ w hR hE h5 (by simp));clear hR hE;go_enter Tryz.func193, Tryz.ntmps193;go_wp2_with fail;refine H1.out.mono ?_;rintro e w1 ⟨rfl, hR1, hF1⟩;have HF1 := hid hF1;clear hR1 hF1 H1;go_wp2_with fail;go_ret2;exact ⟨rfl, HF1.out⟩
def CoefEnd (w : World) (D : Nat) (f : Int) (n : Bool) (e : Int) (m : Bool) (V : Nat) (w' : World) : Prop :=
 ∃ v, NatAt w' v (limbs V) ∧ DecAt w' D f n e false v m ∧ Fr (fun i => i = D) w w' ∧ ∀ g, natBlk v = some g → w.heap.size ≤ g
def IntScanEnd (w : World) (D R : Nat) (f : Int) (n : Bool) (e : Int) (m : Bool) (l : List UInt8) (en : Ending) (w' : World) : Prop :=
 en = .returned (.tuple #[.pointer (some ⟨D, 3, none⟩), .int .i64 10, .nilIface]) ∧ ReaderAt w' R l l.length (-1) ∧
  ∃ v, NatAt w' v (limbs (decVal l)) ∧ DecAt w' D f n e false v m ∧ Fr (fun i => i = D ∨ i = R) w w' ∧ ∀ g, natBlk v = some g → w.heap.size ≤ g
set_option maxRecDepth 100000 in
set_option maxHeartbeats 1000000 in
theorem intScan (D R : Nat) (f : Int) (n : Bool) (ex : Int) (m : Bool) (l : List UInt8) (a : Addr) (w : World) (hD : DecAt w D f n ex false (.slice none 0 0) m) (hR : ReaderAt w R l 0 (-1)) (hDR : D ≠ R) (hE : EofAt w a) (hER : 5 ≠ R) (hd : Digs l) (hne : l ≠ []) (hl : l.length ≤ 250) :
 Calls Tryz.prog 165 #[.pointer (some ⟨D, 3, none⟩), .iface 184 (.pointer (some ⟨R, 0, none⟩)), .int .i64 10] w (IntScanEnd w D R f n ex m l) := by
 obtain ⟨b0, hb0⟩ : ∃ b, l[0]? = some b := by
  cases l with
  | nil => exact absurd rfl hne
  | cons b l => exact ⟨b, rfl⟩
 have H1 := hid (scanSign_digit R l b0 w hR hb0 (hd b0 (List.mem_of_getElem? hb0)) hl);have HD := hid hD; have HE := hid hE; have HDG := hid hd; have HNE := hid hne; have HR := hid hR;clear hD hR hE hd hne hb0;go_enter Tryz.func165, Tryz.ntmps165;go_wp2_with fail;refine H1.out.mono ?_;rintro e w1 ⟨rfl, hR1, hF1⟩;have hD1 := HD.out.fr hF1 hDR;have H2 := hid (natScan R l a w1 hR1 (hF1.cell' HE.out hER) hER HDG.out HNE.out hl);obtain ⟨⟨h0, h1, h2, h3, h4, h5⟩, f0, f1, f2, f3, f4, f5⟩ := hD1.cells;have HF1 := hid hF1; have HD1 := hid hD1;clear hR1 hF1 H1 hD1;go_wp2_with fail;refine H2.out.mono ?_;rintro e w2 ⟨v, rfl, hN, hR2, hF2, hfr⟩;have hD2 := HD1.out.fr hF2 hDR;clear h0 h1 h2 h3 h4 h5 f0 f1 f2 f3 f4 f5;obtain ⟨⟨h0, h1, h2, h3, h4, h5⟩, f0, f1, f2, f3, f4, f5⟩ := hD2.cells;have hDlt : D < w.heap.size := blk_lt HD.out;have hne2 : ∀ g, natBlk v = some g → ¬ g = D := fun g hg h => by have := hfr g hg; have := HF1.out.size; omega
 have HF2 := hid hF2; have HD2 := hid hD2; have HN := hid hN; have HR2 := hid hR2; have HFR := hid hfr; have HNE2 := hid hne2;clear hN hR2 hF2 hfr hne2 hD2 H2;have hv : ∃ g k c, v = .slice g k c := by
  rcases HN.out with ⟨rfl, _⟩ | ⟨g, c, cs, rfl, _⟩
  · exact ⟨_, _, _, rfl⟩
  · exact ⟨_, _, _, rfl⟩
 obtain ⟨g, k, c, rfl⟩ := hv;have W1 := hid ((HD2.out.set4 (.slice g k c)).set3 false);have FIN : ∀ w', DecAt w' D f n ex false (.slice g k c) m → w' = (w2.setCell ⟨D, 4, none⟩ (.slice g k c)).setCell ⟨D, 3, none⟩ (.bool false) → IntScanEnd w D R f n ex m l (.returned (.tuple #[.pointer (some ⟨D, 3, none⟩), .int .i64 10, .nilIface])) w' := by
  rintro w' hd rfl;have hF12 : Fr (fun i => i = D ∨ i = R) w w2 := (HF1.out.trans HF2.out (fun _ _ h => h)).mono (fun i _ h => .inr h);refine ⟨rfl, blk_far (blk_far HR2.out (Ne.symm hDR) _) (Ne.symm hDR) _, _, (HN.out.fr (((Fr.refl (fun i => i = D) w2).setCell (fun _ => rfl) _).setCell (fun _ => rfl) _) (fun g hg => HNE2.out g hg)), hd, ?_, fun g hg => ?_⟩;· refine Fr.setCell (Fr.setCell hF12 (fun _ => .inl rfl) _) (fun _ => .inl rfl) _
  · have := HFR.out g hg; have := HF1.out.size; omega
 have FIN := hid (FIN _ W1.out rfl);go_wp2_with fail;all_goals (go_ret3; exact FIN.out)
def SetEnd (w : World) (D : Nat) (f : Int) (n : Bool) (e : Int) (m : Bool) (V : Nat) (off : Nat) (en : Ending) (w' : World) : Prop :=
 en = .returned (.tuple #[.pointer (some ⟨D, off, none⟩), .bool true]) ∧ CoefEnd w D f n e m V w'
theorem EofAt.lt {w : World} {a : Addr} (h : EofAt w a) : 5 < w.heap.size := World.block_lt_of_cell? w _ h
set_option maxRecDepth 100000 in
set_option maxHeartbeats 1000000 in
theorem intSetString (D : Nat) (f : Int) (n : Bool) (ex : Int) (m : Bool) (l : List UInt8) (a : Addr) (w : World) (hD : DecAt w D f n ex false (.slice none 0 0) m) (h5D : 5 ≠ D) (hE : EofAt w a) (hd : Digs l) (hne : l ≠ []) (hl : l.length ≤ 250) :
 Calls Tryz.prog 87 #[.pointer (some ⟨D, 3, none⟩), .string ⟨l.toArray⟩, .int .i64 10] w (SetEnd w D f n ex m (decVal l) 3) := by
 have hDlt : D < w.heap.size := blk_lt hD;have h5lt : 5 < w.heap.size := hE.lt;have H0 := hid (newReader l w);have HD := hid hD; have HE := hid hE; have HDG := hid hd; have HNE := hid hne;clear hD hE hd hne;go_enter Tryz.func87, Tryz.ntmps87;go_wp2_with fail;refine H0.out.mono ?_;rintro e w1 ⟨rfl, hR1, hF1⟩;have hD1 := HD.out.fr hF1 (fun h => h);have hE1 := hF1.cell' HE.out (fun h => h);have H2 := hid (intScan D w.heap.size f n ex m l a w1 hD1 hR1 (by omega) hE1 (by omega) HDG.out HNE.out hl);have hRlt := ReaderAt_lt hR1;have HF1 := hid hF1; have HE1 := hid hE1;clear hR1 hF1 H0 hD1 hE1;go_wp2_with (go_at_call 130; go_in; go_wp2_with (go_at_call 165; refine H2.out.mono ?_; rintro e w2 ⟨rfl, hR2, v, hN, hD2, hF2, hfr⟩; refine Hid.out ?_));refine hid ?_;have hE2 : w2.cell? ⟨5, 0, none⟩ = some (.iface 147 (.pointer (some a))) := hF2.cell' HE1.out (fun h => by
  rcases h with h | h;· exact h5D h
  · have : (5 : Nat) = w.heap.size := h; omega)
 have H3 := hid (readByte_end w.heap.size l (-1) _ w2 hR2 hE2 (by omega) (by omega));have HN := hid hN; have HD2 := hid hD2; have HF2 := hid hF2; have HFR := hid hfr; have HE2 := hid hE2;clear hN hD2 hF2 hfr hR2 hE2 H2;go_wp2_with (go_at_call 349; refine H3.out.mono ?_; rintro e w3 ⟨rfl, hR3, hF3⟩; refine Hid.out ?_);refine hid ?_;have hne' := neq55_same a w3;have hE3 : w3.cell? ⟨5, 0, none⟩ = some (.iface 147 (.pointer (some a))) := hF3.cell' HE2.out (by show ¬ (5 = w.heap.size); omega);have FIN : CoefEnd w D f n ex m (decVal l) w3 := by
  refine ⟨v, HN.out.fr hF3 ?_, HD2.out.fr hF3 (by show ¬ (D = w.heap.size); omega), ?_, ?_⟩;· intro g hg h;have h1 := HFR.out g hg;have h2 : g = w.heap.size := h;omega
  · refine (((HF1.out.mono (S' := fun i => i = D) (fun _ _ h => h.elim)).trans HF2.out ?_).trans hF3 ?_)
    · rintro i hi (h | h)
      · exact h
      · exact absurd (show i = w.heap.size from h) (by omega)
    · intro i hi h;exact absurd (show i = w.heap.size from h) (by omega)
  · intro g hg;have h1 := HFR.out g hg;omega
 have FIN := hid FIN;clear hF3 hR3;go_wp2_with fail;go_ret2;exact ⟨rfl, FIN.out⟩
theorem coefSetString (D : Nat) (f : Int) (n : Bool) (ex : Int) (m : Bool) (l : List UInt8) (a : Addr) (w : World) (hD : DecAt w D f n ex false (.slice none 0 0) m) (h5D : 5 ≠ D) (hE : EofAt w a) (hd : Digs l) (hne : l ≠ []) (hl : l.length ≤ 250) :
 Calls Tryz.prog 59 #[.pointer (some ⟨D, 3, none⟩), .string ⟨l.toArray⟩, .int .i64 10] w (SetEnd w D f n ex false (decVal l) 3) := by
 obtain ⟨⟨h0, h1, h2, h3, h4, h5⟩, f0, f1, f2, f3, f4, f5⟩ := hD.cells;have H := hid (intSetString D f n ex false l a (w.setCell ⟨D, 5, none⟩ (.bool false)) (hD.set5 false) h5D (((Fr.refl (fun i => i = D) w).setCell (fun _ => rfl) _).cell' hE h5D) hd hne hl);have HD := hid hD;clear hD hE hd hne;go_enter Tryz.func59, Tryz.ntmps59;go_wp2_with fail;refine H.out.mono ?_;rintro e w1 ⟨rfl, v, hN, hD1, hF1, hfr⟩;have FIN : CoefEnd w D f n ex false (decVal l) w1 := ⟨v, hN, hD1, ((Fr.refl (fun i => i = D) w).setCell (fun _ => rfl) _).trans hF1 (fun _ _ h => h), fun g hg => by have := hfr g hg; simpa using this⟩
 have FIN := hid FIN;clear hN hD1 hF1 hfr H;go_wp2_with fail;go_ret2;exact ⟨rfl, FIN.out⟩
set_option maxRecDepth 100000 in
set_option maxHeartbeats 1000000 in
theorem intScan_empty (p : Addr) (R : Nat) (a : Addr) (w : World) (hR : ReaderAt w R [] 0 (-1)) (hE : EofAt w a) (hER : 5 ≠ R) :
 Calls Tryz.prog 130 #[.pointer (some p), .iface 184 (.pointer (some ⟨R, 0, none⟩)), .int .i64 10] w fun e w' => e = .returned (.tuple #[.pointer none, .bool false]) ∧ Fr (fun i => i = R) w w' := by
 have H2 := hid (scanSign_empty R a w hR hE hER);clear hR hE;go_enter Tryz.func130, Tryz.ntmps130;go_wp2_with (first | (go_at_call 165; go_in) | (go_at_call 193; refine H2.out.mono ?_; rintro e w2 ⟨rfl, hF2⟩));go_ret2;exact ⟨rfl, hF2⟩
set_option maxRecDepth 100000 in
set_option maxHeartbeats 1000000 in
theorem intSetString_empty (p a : Addr) (w : World) (hE : EofAt w a) :
 Calls Tryz.prog 87 #[.pointer (some p), .string ⟨#[]⟩, .int .i64 10] w fun e w' => e = .returned (.tuple #[.pointer none, .bool false]) ∧ Fr NoB w w' := by
 have H0 := hid (newReader [] w);have HE := hid hE;have h5lt : 5 < w.heap.size := hE.lt;clear hE;go_enter Tryz.func87, Tryz.ntmps87;go_wp2_with fail;refine H0.out.mono ?_;rintro e w1 ⟨rfl, hR1, hF1⟩;have H2 := hid (intScan_empty p w.heap.size a w1 hR1 (hF1.cell' HE.out (fun h => h)) (by omega));have HF1 := hid hF1;clear hR1 hF1 H0;go_wp2_with fail;refine H2.out.mono ?_;rintro e w2 ⟨rfl, hF2⟩;have FIN := hid (HF1.out.trans hF2 (fun i hi (h : i = w.heap.size) => by omega));clear hF2;go_wp2_with fail;go_ret2;exact ⟨rfl, FIN.out⟩
theorem coefSetString_empty (D : Nat) (f : Int) (n : Bool) (ex : Int) (c : Bool) (v : Value) (m : Bool) (a : Addr) (w : World) (hD : DecAt w D f n ex c v m) (h5D : 5 ≠ D) (hE : EofAt w a) :
 Calls Tryz.prog 59 #[.pointer (some ⟨D, 3, none⟩), .string ⟨#[]⟩, .int .i64 10] w fun e w' => e = .returned (.tuple #[.pointer none, .bool false]) ∧ Fr (fun i => i = D) w w' := by
 obtain ⟨⟨h0, h1, h2, h3, h4, h5⟩, f0, f1, f2, f3, f4, f5⟩ := hD.cells;have hF0 : Fr (fun i => i = D) w (w.setCell ⟨D, 5, none⟩ (.bool false)) := (Fr.refl (fun i => i = D) w).setCell (fun _ => rfl) _;have H := hid (intSetString_empty ⟨D, 3, none⟩ a _ (hF0.cell' hE h5D));have HF0 := hid hF0;clear hD hE hF0;go_enter Tryz.func59, Tryz.ntmps59;go_wp2_with fail;refine H.out.mono ?_;rintro e w1 ⟨rfl, hF1⟩;have FIN := hid (HF0.out.trans hF1 (fun _ _ h => h.elim));clear hF1 H;go_wp2_with fail;go_ret2;exact ⟨rfl, FIN.out⟩
end Go.Proofs.YteokhhepnoelhaaGreatDoor
