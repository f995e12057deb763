/-
  mulAddVWW: a row of words times a word, and a word more.
-/
import Derived.Test.YteokhhepnoelhaaGreatDoorArith
import Derived.Test.YteokhhepnoelhaaGreatDoorPut
set_option linter.unusedVariables false
set_option linter.unusedSimpArgs false
namespace Go.Proofs.YteokhhepnoelhaaGreatDoor
open Go.RowKit

def mulAddZ : List Nat → Nat → Nat → List Nat
  | [], _, _ => []
  | x :: xs, y, c => (x * y + c) % WB :: mulAddZ xs y ((x * y + c) / WB)
def mulAddC : List Nat → Nat → Nat → Nat
  | [], _, c => c
  | x :: xs, y, c => mulAddC xs y ((x * y + c) / WB)

theorem mulAddZ_length (xs : List Nat) : ∀ (y c : Nat), (mulAddZ xs y c).length = xs.length := by
  induction xs with
  | nil => intro y c; rfl
  | cons x xs ih => intro y c; simp [mulAddZ, ih]
theorem mulAddC_snoc (xs : List Nat) (x y : Nat) : ∀ c, mulAddC (xs ++ [x]) y c = (x * y + mulAddC xs y c) / WB := by
  induction xs with
  | nil => intro c; rfl
  | cons u xs ih => intro c; simp [mulAddC, ih]
theorem mulAddZ_snoc (xs : List Nat) (x y : Nat) : ∀ c, mulAddZ (xs ++ [x]) y c = mulAddZ xs y c ++ [(x * y + mulAddC xs y c) % WB] := by
  induction xs with
  | nil => intro c; rfl
  | cons u xs ih => intro c; simp [mulAddZ, mulAddC, ih]
theorem carry_lt {x y c : Nat} (hx : x < WB) (hy : y < WB) (hc : c < WB) : (x * y + c) / WB < WB := by
  rw [← (mulAddWWW_sum x y c hx hy hc).1]; rw [(mulAddWWW_sum x y c hx hy hc).1]; exact (mulAddWWW_sum x y c hx hy hc).2.2
theorem mulAddC_lt (xs : List Nat) (y : Nat) (hy : y < WB) : ∀ c, c < WB → (∀ x ∈ xs, x < WB) → mulAddC xs y c < WB := by
  induction xs with
  | nil => intro c hc _; exact hc
  | cons x xs ih =>
    intro c hc h
    exact ih _ (carry_lt (h x (by simp)) hy hc) (fun u hu => h u (by simp [hu]))

set_option maxHeartbeats 1000000 in
theorem mulAddVWW (gz oz cz gx ox cx : Nat) (csz : Array Value) (xs : List Nat) (y r : Nat) (w : World)
    (hz : w.heap[gz]? = some (.cells csz 105 (0, 0))) (hzn : oz + xs.length ≤ csz.size)
    (hx : ∀ (j x : Nat), xs[j]? = some x → w.cell? ⟨gx, ox + j, none⟩ = some (.int .u64 (x : Int))) (hax : gx = gz → ox = oz)
    (hb : ∀ x ∈ xs, x < WB) (hy : y < WB) (hr : r < WB) (hlen : xs.length ≤ 1000000) :
    Calls Tryz.prog 217 #[.slice (some ⟨gz, oz, none⟩) xs.length cz, .slice (some ⟨gx, ox, none⟩) xs.length cx, .int .u64 (y : Int), .int .u64 (r : Int)] w
      fun e w' => e = .returned (.int .u64 (mulAddC xs y r : Int)) ∧ w'.heap[gz]? = some (.cells (putV csz oz (u64s (mulAddZ xs y r))) 105 (0, 0)) ∧ Fr (fun i => i = gz) w w' := by
  have HZ := hid hz; have HX := hid hx; have HA := hid hax; have HB := hid hb; have HY := hid hy; have HR := hid hr
  clear hz hx hax hb hy hr
  go_enter Tryz.func217, Tryz.ntmps217
  go_wp2
  go_loopw [8, 19] (fun c i wr => ∃ k : Nat, k ≤ xs.length ∧ i = .int .i64 k ∧ c = .int .u64 (mulAddC (xs.take k) y r : Nat) ∧ wr.heap[gz]? = some (.cells (putV csz oz (u64s (mulAddZ (xs.take k) y r))) 105 (0, 0)) ∧ Fr (fun i => i = gz) w wr) (fun _ i _ => xs.length - (intOf i).toNat)
  case atStart => exact ⟨0, Nat.zero_le _, rfl, rfl, by simpa [mulAddZ, putV, u64s] using HZ.out, Fr.refl _ _⟩
  case round =>
    obtain ⟨k, hk, rfl, rfl, hwr, hF⟩ := hrel
    by_cases hlt : k < xs.length
    · obtain ⟨x, hxk⟩ : ∃ x, xs[k]? = some x := ⟨xs[k], List.getElem?_eq_getElem hlt⟩
      have htk : xs.take (k + 1) = xs.take k ++ [x] := by
        rw [List.take_add_one, hxk]; rfl
      have hxb : x < WB := HB.out x (List.mem_of_getElem? hxk)
      have hcb : mulAddC (xs.take k) y r < WB := mulAddC_lt _ _ HY.out _ HR.out (fun u hu => HB.out u (List.mem_of_mem_take hu))
      have hlk : (u64s (mulAddZ (xs.take k) y r)).length = k := by rw [u64s_length, mulAddZ_length, List.length_take, Nat.min_eq_left hk]
      have hsz : (putV csz oz (u64s (mulAddZ (xs.take k) y r))).size = csz.size := putV_size _ _ _
      have hcell : wr.cell? ⟨gx, ox + k, none⟩ = some (.int .u64 (x : Int)) := by
        by_cases e : gx = gz
        · have ho := HA.out e
          subst e; subst ho
          rw [blk_cell hwr, putV_get_out _ _ _ _ (.inr (by omega)), ← blk_cell HZ.out]
          exact HX.out k x hxk
        · exact hF.cell' (HX.out k x hxk) e
      obtain ⟨v0, hv0⟩ : ∃ v, (putV csz oz (u64s (mulAddZ (xs.take k) y r)))[oz + k]? = some v := ⟨_, Array.getElem?_eq_getElem (by omega)⟩
      have hold : wr.cell? ⟨gz, oz + k, none⟩ = some v0 := by rw [blk_cell hwr]; exact hv0
      have hfz : wr.frozen? ⟨gz, oz + k, none⟩ = false := blk_frozen hwr _
      have hset := blk_set hwr (oz + k) (.int .u64 (((x * y + mulAddC (xs.take k) y r) % WB : Nat) : Int))
      have hput : (putV csz oz (u64s (mulAddZ (xs.take k) y r))).setIfInBounds (oz + k) (.int .u64 (((x * y + mulAddC (xs.take k) y r) % WB : Nat) : Int)) = putV csz oz (u64s (mulAddZ (xs.take (k + 1)) y r)) := by
        rw [htk, mulAddZ_snoc, u64s_append, show u64s [(x * y + mulAddC (xs.take k) y r) % WB] = [.int .u64 (((x * y + mulAddC (xs.take k) y r) % WB : Nat) : Int)] from rfl, putV_snoc, hlk]
      rw [hput] at hset
      have hcn : mulAddC (xs.take (k + 1)) y r = (x * y + mulAddC (xs.take k) y r) / WB := by rw [htk, mulAddC_snoc]
      have HSET := hid hset; have HCN := hid hcn; have HF := hid hF
      have M := hid (mulAddWWW x y (mulAddC (xs.take k) y r) hxb HY.out hcb)
      clear hset hcn hput hwr hF hsz hlk hv0 htk hxk hxb hcb
      generalize mulAddC (xs.take k) y r = c at *
      generalize (x * y + c) % WB = lo at *
      generalize (x * y + c) / WB = hi at *
      go_wp2_with (go_at_call 295; refine (M.out _).mono ?_; rintro e w2 ⟨rfl, rfl⟩)
      go_roundw
      case rel => exact ⟨k + 1, by omega, by go_num, by rw [HCN.out], HSET.out, HF.out.setCell (fun _ => rfl) _⟩
      case measure => simp [intOf]; omega
    · obtain rfl : k = xs.length := by omega
      rw [List.take_length] at *
      have HW := hid hwr; have HF := hid hF
      clear hwr hF
      go_wp2
      go_ret
      exact ⟨rfl, HW.out, HF.out⟩
end Go.Proofs.YteokhhepnoelhaaGreatDoor
