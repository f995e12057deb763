/-
  nat.set: a copy of a row of words.
-/
import Derived.Test.YteokhhepnoelhaaGreatDoorConvW
import Derived.Laws.CopyOwn
set_option linter.unusedVariables false
set_option linter.unusedSimpArgs false
namespace Go.Proofs.YteokhhepnoelhaaGreatDoor
open Go.RowKit

theorem Fr.setRow {S : Nat → Prop} {a w : World} (h : Fr S a w) {g : Nat} (hp : g < a.heap.size → S g) (cs : Array Value) : Fr S a (w.setRow g cs) :=
  ⟨h.os, h.tape, h.output, by have := h.size; simp [World.setRow]; omega, fun k hk hn => by
    by_cases e : k = g
    · subst e; exact absurd (hp hk) hn
    · exact (setRow_other w g k cs e).trans (h.block k hk hn)⟩
theorem Tryz.size105 : (Tryz.prog.info? 105).map (·.size) = some 1 := by kernel_rfl

theorem NatAt.cell {w : World} {v : Value} {xs : List Nat} (h : NatAt w v xs) (hne : xs ≠ []) : ∃ g cap, v = .slice (some ⟨g, 0, none⟩) xs.length cap ∧ (∀ (j x : Nat), xs[j]? = some x → w.cell? ⟨g, j, none⟩ = some (.int .u64 (x : Int))) ∧ xs.length ≤ cap ∧ g < w.heap.size ∧ cap ≤ 1000000 ∧ natBlk v = some g := by
  rcases h with ⟨_, h⟩ | ⟨g, cap, cs, rfl, hg, h1, h2, h3, h4⟩
  · exact absurd h hne
  · exact ⟨g, cap, rfl, fun j x hj => by rw [blk_cell hg]; exact h4 j x hj, h2, blk_lt hg, h3, rfl⟩

/-- What a function of nat gives that writes the words xs into z's own block or a new one. -/
def RowRes (w : World) (v : Value) (xs : List Nat) (e : Ending) (w' : World) : Prop :=
  ∃ v', e = .returned v' ∧ NatAt w' v' xs ∧ Fr (fun i => natBlk v = some i) w w' ∧ ∀ g, natBlk v' = some g → natBlk v = some g ∨ w.heap.size ≤ g

theorem list_take_drop {cs : List Value} {cur : Array Value} (h : cs.length ≤ cur.size) : (∀ (j : Nat) (v : Value), cs[j]? = some v → ((cs ++ cur.toList.drop cs.length).toArray)[j]? = some v) ∧ (cs ++ cur.toList.drop cs.length).toArray.size = cur.size := by
  constructor
  · intro j v hj
    have hlt := (List.getElem?_eq_some_iff.1 hj).1
    simp [List.getElem?_append, hlt]
    exact (List.getElem?_eq_some_iff.1 hj).2
  · simp; omega

set_option maxRecDepth 100000 in
set_option maxHeartbeats 1000000 in
theorem natSet (v vx : Value) (zs xs : List Nat) (w : World) (hv : NatAt w v zs) (hvx : NatAt w vx xs) (hl : xs.length ≤ 900) :
    Calls Tryz.prog 110 #[v, vx] w (RowRes w v xs) := by
  by_cases hne : xs = []
  · subst hne
    obtain ⟨A, c, rfl⟩ := hvx.shape
    have HV := hid hv
    rcases hv with ⟨rfl, rfl⟩ | ⟨g, cap, cs, rfl, hg, h1, h2, h3, h4⟩
    · have N : RowRes w (.slice none 0 0) [] (.returned (.slice none 0 0)) w := ⟨_, rfl, NatAt.nil w, Fr.refl _ _, fun g h => by cases h⟩
      have N := hid N
      clear hvx
      rw [show ([] : List Nat).length = 0 from rfl] at *
      go_enter Tryz.func110, Tryz.ntmps110
      go_wp2_with (first | (go_at_call 153; go_in) | (refine wpList_copy_nothing rfl (.tmp 9) (.tmp 10) 66 66 rfl 105 Tryz.underlying66 Tryz.size105 _ _ _ _ _ _ rfl rfl rfl ?_))
      go_ret
      exact N.out
    · have N : RowRes w (.slice (some ⟨g, 0, none⟩) zs.length cap) [] (.returned (.slice (some ⟨g, 0, none⟩) 0 cap)) w :=
        ⟨.slice (some ⟨g, 0, none⟩) 0 cap, rfl, .inr ⟨g, cap, cs, rfl, hg, h1, Nat.zero_le _, h3, by simp⟩, Fr.refl _ _, fun k h => .inl h⟩
      have N := hid N
      clear hvx hg h4
      rw [show ([] : List Nat).length = 0 from rfl] at *
      go_enter Tryz.func110, Tryz.ntmps110
      go_wp2_with (first | (go_at_call 153; go_in) | (refine wpList_copy_nothing rfl (.tmp 9) (.tmp 10) 66 66 rfl 105 Tryz.underlying66 Tryz.size105 _ _ _ _ _ _ rfl rfl rfl ?_))
      go_ret
      exact N.out
  · obtain ⟨gx, capx, rfl, hcx, hcap, hgx, hcm, _⟩ := hvx.cell hne
    have hl1 : 1 ≤ xs.length := by
      have : xs.length ≠ 0 := fun hh => hne (List.length_eq_zero_iff.1 hh)
      omega
    have HM := hid (natMake v zs xs.length w hv (by omega) (by omega))
    have HCX := hid hcx
    clear hcx hvx hv
    go_enter Tryz.func110, Tryz.ntmps110
    go_wp2_with fail
    refine HM.out.mono ?_
    clear HM
    rintro e w1 ⟨g, cap, cs, rfl, hg, h1, h2, h3, hF, hgb⟩
    have hsrc : ∀ (j : Nat) (u : Value), (u64s xs)[j]? = some u → w1.cell? ((⟨gx, 0, none⟩ : Addr).add j) = some u := fun j u hj => by
      rw [add_plain, Nat.zero_add]
      rw [u64s_get] at hj
      obtain ⟨x, hx, rfl⟩ := Option.map_eq_some_iff.1 hj
      exact hF.cell' (HCX.out j x hx) (fun h => h)
    have h1c : ∀ u ∈ u64s xs, u.oneCell' = true := fun u hu => by
      obtain ⟨x, _, rfl⟩ := List.mem_map.1 hu
      rfl
    have hlen : (u64s xs).length = xs.length := u64s_length xs
    obtain ⟨t1, t2⟩ := list_take_drop (cs := u64s xs) (cur := cs) (by omega)
    have hat : NatAt (w1.setRow g (u64s xs ++ cs.toList.drop (u64s xs).length).toArray) (.slice (some ⟨g, 0, none⟩) xs.length cap) xs :=
      .inr ⟨g, cap, _, rfl, setRow_heap w1 g _ _ _ _ hg, by omega, h2, h3, fun j x hj => t1 j _ (by rw [u64s_get, hj]; rfl)⟩
    have N : RowRes w v xs (.returned (.slice (some ⟨g, 0, none⟩) xs.length cap)) (w1.setRow g (u64s xs ++ cs.toList.drop (u64s xs).length).toArray) :=
      ⟨_, rfl, hat, Fr.setRow (hF.mono (fun _ _ h => h.elim)) (fun hlt => hgb.resolve_right (Nat.not_le.2 hlt)) _, fun k hk => by cases hk; exact hgb⟩
    have N := hid N
    have HG := hid hg; have HS := hid hsrc; have H1C := hid h1c; have HL := hid hlen
    clear hat t1 t2 hF hgb hg hsrc h1c hlen
    have C1 : Hid ((u64s xs).length = Nat.min xs.length xs.length) := hid (by rw [HL.out]; exact (Nat.min_self _).symm)
    have C2 : Hid (0 + (u64s xs).length ≤ cs.size) := hid (by rw [HL.out]; omega)
    go_wp2_with (refine wpList_copy_own rfl (.tmp 9) (.tmp 10) 66 66 rfl 105 Tryz.underlying66 Tryz.size105 g 0 xs.length cap ⟨gx, 0, none⟩ xs.length capx rfl rfl cs 105 HG.out (u64s xs) C1.out HS.out C2.out H1C.out ?_)
    go_ret
    exact N.out
end Go.Proofs.YteokhhepnoelhaaGreatDoor
