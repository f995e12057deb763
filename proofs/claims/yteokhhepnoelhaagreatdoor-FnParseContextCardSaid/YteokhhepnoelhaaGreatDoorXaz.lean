/-
  subVV, addVV: rows of words.
-/
import Derived.Test.YteokhhepnoelhaaGreatDoorXay
import Derived.Test.YteokhhepnoelhaaGreatDoorXac
import Derived.Test.YteokhhepnoelhaaGreatDoorXae
import Derived.Deep.RegionWith
import Derived.Deep.QuietTactic
import Derived.BigQuiet
set_option linter.unusedVariables false
set_option linter.unusedSimpArgs false
namespace Go.Proofs.YteokhhepnoelhaaGreatDoor
open Go.RowKit
set_option maxHeartbeats 2000000 in
theorem subVV_any (gz oz cz gx ox cx gy oy cy : Nat) (csz : Array Value) (xs ys : List Nat) (w : World)
 (hz : w.heap[gz]? = some (.cells csz 105 (0, 0))) (hzn : oz + xs.length ≤ csz.size) (hl : xs.length = ys.length)
 (hx : ∀ (j x : Nat), xs[j]? = some x → w.cell? ⟨gx, ox + j, none⟩ = some (.int .u64 (x : Int))) (hax : gx = gz → ox = oz)
 (hy : ∀ (j y : Nat), ys[j]? = some y → w.cell? ⟨gy, oy + j, none⟩ = some (.int .u64 (y : Int))) (hay : gy ≠ gz)
 (hbx : ∀ x ∈ xs, x < WB) (hby : ∀ y ∈ ys, y < WB) (hlen : xs.length ≤ 1000000) :
 Calls Tryz.prog 205 #[.slice (some ⟨gz, oz, none⟩) xs.length cz, .slice (some ⟨gx, ox, none⟩) xs.length cx, .slice (some ⟨gy, oy, none⟩) xs.length cy] w
  fun e w' => e = .returned (.int .u64 (sbC xs ys 0 : Int)) ∧ w'.heap[gz]? = some (.cells (putV csz oz (u64s (sbZ xs ys 0))) 105 (0, 0)) ∧ Fr (fun i => i = gz) w w' := by
 have HZ := hid hz; have HX := hid hx; have HA := hid hax; have HY := hid hy; have HBX := hid hbx; have HBY := hid hby; have HL := hid hl;clear hz hx hax hbx hby hl hy;go_enter Tryz.func205, Tryz.ntmps205;go_wp2
 go_loopw [6, 25] (fun c i wr => ∃ k : Nat, k ≤ xs.length ∧ i = .int .i64 k ∧ c = .int .u64 (sbC (xs.take k) (ys.take k) 0 : Nat) ∧ wr.heap[gz]? = some (.cells (putV csz oz (u64s (sbZ (xs.take k) (ys.take k) 0))) 105 (0, 0)) ∧ Fr (fun i => i = gz) w wr) (fun _ i _ => xs.length - (intOf i).toNat);case atStart => exact ⟨0, Nat.zero_le _, rfl, rfl, by simpa [sbZ, putV, u64s] using HZ.out, Fr.refl _ _⟩
 case round =>
  obtain ⟨k, hk, rfl, rfl, hwr, hF⟩ := hrel;by_cases hlt : k < xs.length
  · have hl := HL.out;have HF0 := hid hF;have hF : Fr (fun i => i = gz) w wr.drew := hF.drew;have hwr : wr.drew.heap[gz]? = some (.cells (putV csz oz (u64s (sbZ (xs.take k) (ys.take k) 0))) 105 (0, 0)) := hwr;obtain ⟨x, hxk⟩ : ∃ x, xs[k]? = some x := ⟨xs[k], List.getElem?_eq_getElem hlt⟩
    obtain ⟨y, hyk⟩ : ∃ y, ys[k]? = some y := ⟨ys[k], List.getElem?_eq_getElem (by omega)⟩
    have htx : xs.take (k + 1) = xs.take k ++ [x] := by rw [List.take_add_one, hxk]; rfl
    have hty : ys.take (k + 1) = ys.take k ++ [y] := by rw [List.take_add_one, hyk]; rfl
    have hlx : (xs.take k).length = k := by rw [List.length_take, Nat.min_eq_left hk]
    have hly : (ys.take k).length = k := by rw [List.length_take, Nat.min_eq_left (by omega)]
    have hxb : x < WB := HBX.out x (List.mem_of_getElem? hxk);have hyb : y < WB := HBY.out y (List.mem_of_getElem? hyk);have hcb : sbC (xs.take k) (ys.take k) 0 ≤ 1 := sbC_le _ _ _ (Nat.zero_le _);have hlk : (u64s (sbZ (xs.take k) (ys.take k) 0)).length = k := by rw [u64s_length, sbZ_length _ _ _ (by omega), hlx]
    have hsz : (putV csz oz (u64s (sbZ (xs.take k) (ys.take k) 0))).size = csz.size := putV_size _ _ _;have hcellx : wr.drew.cell? ⟨gx, ox + k, none⟩ = some (.int .u64 (x : Int)) := by
     by_cases e : gx = gz;· have ho := HA.out e;subst e; subst ho;rw [blk_cell hwr, putV_get_out _ _ _ _ (.inr (by omega)), ← blk_cell HZ.out];exact HX.out k x hxk
     · exact hF.cell' (HX.out k x hxk) e
    have hcelly : wr.drew.cell? ⟨gy, oy + k, none⟩ = some (.int .u64 (y : Int)) := hF.cell' (HY.out k y hyk) hay;obtain ⟨v0, hv0⟩ : ∃ v, (putV csz oz (u64s (sbZ (xs.take k) (ys.take k) 0)))[oz + k]? = some v := ⟨_, Array.getElem?_eq_getElem (by omega)⟩
    have hold : wr.drew.cell? ⟨gz, oz + k, none⟩ = some v0 := by rw [blk_cell hwr]; exact hv0
    have hfz : wr.drew.frozen? ⟨gz, oz + k, none⟩ = false := blk_frozen hwr _;have hsn := sb_snoc (xs.take k) x y (ys.take k) 0 (by omega);rw [← htx, ← hty] at hsn;have hset := blk_set hwr (oz + k) (.int .u64 (((x + WB - y - sbC (xs.take k) (ys.take k) 0) % WB : Nat) : Int));have hput : (putV csz oz (u64s (sbZ (xs.take k) (ys.take k) 0))).setIfInBounds (oz + k) (.int .u64 (((x + WB - y - sbC (xs.take k) (ys.take k) 0) % WB : Nat) : Int)) = putV csz oz (u64s (sbZ (xs.take (k + 1)) (ys.take (k + 1)) 0)) := by
     rw [hsn.1, u64s_append, show u64s [(x + WB - y - sbC (xs.take k) (ys.take k) 0) % WB] = [.int .u64 (((x + WB - y - sbC (xs.take k) (ys.take k) 0) % WB : Nat) : Int)] from rfl, putV_snoc, hlk]
    rw [hput] at hset;have HSET := hid hset; have HCN := hid hsn.2; have HF := hid hF;have M := hid (bitsSub x y (sbC (xs.take k) (ys.take k) 0) hcb);simp only [← WB_eq] at M;clear hset hsn hput hwr hF hsz hlk hv0 htx hty hxk hyk hxb hyb hcb hlx hly hl;generalize sbC (xs.take k) (ys.take k) 0 = c at *
    generalize (x + WB - y - c) % WB = lo at *
    generalize (if x < y + c then 1 else 0 : Nat) = hi at *
    go_wp2_with fail;go_region_with (first | (go_at_call 238; refine (M.out _).mono ?_; rintro e w2 ⟨rfl, rfl⟩));all_goals
     go_wp2_with fail;go_roundw;case rel => exact ⟨k + 1, by omega, by go_num, by rw [HCN.out], HSET.out, (HF0.out.setCell (fun _ => rfl) _).drew⟩
     case measure => simp [intOf]; omega
  · obtain rfl : k = xs.length := by omega
    rw [List.take_length, show ys.take xs.length = ys by rw [HL.out, List.take_length]] at *
    have HW := hid hwr; have HF := hid hF;clear hwr hF;go_wp2
    go_ret;exact ⟨rfl, HW.out, HF.out⟩
set_option maxHeartbeats 2000000 in
theorem addVV_any (gz oz cz gx ox cx gy oy cy : Nat) (csz : Array Value) (xs ys : List Nat) (w : World)
 (hz : w.heap[gz]? = some (.cells csz 105 (0, 0))) (hzn : oz + xs.length ≤ csz.size) (hl : xs.length = ys.length)
 (hx : ∀ (j x : Nat), xs[j]? = some x → w.cell? ⟨gx, ox + j, none⟩ = some (.int .u64 (x : Int))) (hax : gx = gz → ox = oz)
 (hy : ∀ (j y : Nat), ys[j]? = some y → w.cell? ⟨gy, oy + j, none⟩ = some (.int .u64 (y : Int))) (hay : gy ≠ gz)
 (hbx : ∀ x ∈ xs, x < WB) (hby : ∀ y ∈ ys, y < WB) (hlen : xs.length ≤ 1000000) :
 Calls Tryz.prog 203 #[.slice (some ⟨gz, oz, none⟩) xs.length cz, .slice (some ⟨gx, ox, none⟩) xs.length cx, .slice (some ⟨gy, oy, none⟩) xs.length cy] w
  fun e w' => e = .returned (.int .u64 (adC xs ys 0 : Int)) ∧ w'.heap[gz]? = some (.cells (putV csz oz (u64s (adZ xs ys 0))) 105 (0, 0)) ∧ Fr (fun i => i = gz) w w' := by
 have HZ := hid hz; have HX := hid hx; have HA := hid hax; have HY := hid hy; have HBX := hid hbx; have HBY := hid hby; have HL := hid hl;clear hz hx hax hbx hby hl hy;go_enter Tryz.func203, Tryz.ntmps203;go_wp2
 go_loopw [6, 25] (fun c i wr => ∃ k : Nat, k ≤ xs.length ∧ i = .int .i64 k ∧ c = .int .u64 (adC (xs.take k) (ys.take k) 0 : Nat) ∧ wr.heap[gz]? = some (.cells (putV csz oz (u64s (adZ (xs.take k) (ys.take k) 0))) 105 (0, 0)) ∧ Fr (fun i => i = gz) w wr) (fun _ i _ => xs.length - (intOf i).toNat);case atStart => exact ⟨0, Nat.zero_le _, rfl, rfl, by simpa [adZ, putV, u64s] using HZ.out, Fr.refl _ _⟩
 case round =>
  obtain ⟨k, hk, rfl, rfl, hwr, hF⟩ := hrel;by_cases hlt : k < xs.length
  · have hl := HL.out;have HF0 := hid hF;have hF : Fr (fun i => i = gz) w wr.drew := hF.drew;have hwr : wr.drew.heap[gz]? = some (.cells (putV csz oz (u64s (adZ (xs.take k) (ys.take k) 0))) 105 (0, 0)) := hwr;obtain ⟨x, hxk⟩ : ∃ x, xs[k]? = some x := ⟨xs[k], List.getElem?_eq_getElem hlt⟩
    obtain ⟨y, hyk⟩ : ∃ y, ys[k]? = some y := ⟨ys[k], List.getElem?_eq_getElem (by omega)⟩
    have htx : xs.take (k + 1) = xs.take k ++ [x] := by rw [List.take_add_one, hxk]; rfl
    have hty : ys.take (k + 1) = ys.take k ++ [y] := by rw [List.take_add_one, hyk]; rfl
    have hlx : (xs.take k).length = k := by rw [List.length_take, Nat.min_eq_left hk]
    have hly : (ys.take k).length = k := by rw [List.length_take, Nat.min_eq_left (by omega)]
    have hxb : x < WB := HBX.out x (List.mem_of_getElem? hxk);have hyb : y < WB := HBY.out y (List.mem_of_getElem? hyk);have hcb : adC (xs.take k) (ys.take k) 0 ≤ 1 := adC_le _ _ _ (Nat.zero_le _) (fun u hu => HBX.out u (List.mem_of_mem_take hu)) (fun u hu => HBY.out u (List.mem_of_mem_take hu));have hlk : (u64s (adZ (xs.take k) (ys.take k) 0)).length = k := by rw [u64s_length, adZ_length _ _ _ (by omega), hlx]
    have hsz : (putV csz oz (u64s (adZ (xs.take k) (ys.take k) 0))).size = csz.size := putV_size _ _ _;have hcellx : wr.drew.cell? ⟨gx, ox + k, none⟩ = some (.int .u64 (x : Int)) := by
     by_cases e : gx = gz;· have ho := HA.out e;subst e; subst ho;rw [blk_cell hwr, putV_get_out _ _ _ _ (.inr (by omega)), ← blk_cell HZ.out];exact HX.out k x hxk
     · exact hF.cell' (HX.out k x hxk) e
    have hcelly : wr.drew.cell? ⟨gy, oy + k, none⟩ = some (.int .u64 (y : Int)) := hF.cell' (HY.out k y hyk) hay;obtain ⟨v0, hv0⟩ : ∃ v, (putV csz oz (u64s (adZ (xs.take k) (ys.take k) 0)))[oz + k]? = some v := ⟨_, Array.getElem?_eq_getElem (by omega)⟩
    have hold : wr.drew.cell? ⟨gz, oz + k, none⟩ = some v0 := by rw [blk_cell hwr]; exact hv0
    have hfz : wr.drew.frozen? ⟨gz, oz + k, none⟩ = false := blk_frozen hwr _;have hsn := ad_snoc (xs.take k) x y (ys.take k) 0 (by omega);rw [← htx, ← hty] at hsn;have hset := blk_set hwr (oz + k) (.int .u64 (((x + y + adC (xs.take k) (ys.take k) 0) % WB : Nat) : Int));have hput : (putV csz oz (u64s (adZ (xs.take k) (ys.take k) 0))).setIfInBounds (oz + k) (.int .u64 (((x + y + adC (xs.take k) (ys.take k) 0) % WB : Nat) : Int)) = putV csz oz (u64s (adZ (xs.take (k + 1)) (ys.take (k + 1)) 0)) := by
     rw [hsn.1, u64s_append, show u64s [(x + y + adC (xs.take k) (ys.take k) 0) % WB] = [.int .u64 (((x + y + adC (xs.take k) (ys.take k) 0) % WB : Nat) : Int)] from rfl, putV_snoc, hlk]
    rw [hput] at hset;have HSET := hid hset; have HCN := hid hsn.2; have HF := hid hF;have M := hid (bitsAdd x y (adC (xs.take k) (ys.take k) 0) hcb);simp only [← WB_eq] at M;clear hset hsn hput hwr hF hsz hlk hv0 htx hty hxk hyk hxb hyb hcb hlx hly hl;generalize adC (xs.take k) (ys.take k) 0 = c at *
    generalize (x + y + c) % WB = lo at *
    generalize (x + y + c) / WB = hi at *
    go_wp2_with fail;go_region_with (first | (go_at_call 236; refine (M.out _).mono ?_; rintro e w2 ⟨rfl, rfl⟩));all_goals
     go_wp2_with fail;go_roundw;case rel => exact ⟨k + 1, by omega, by go_num, by rw [HCN.out], HSET.out, (HF0.out.setCell (fun _ => rfl) _).drew⟩
     case measure => simp [intOf]; omega
  · obtain rfl : k = xs.length := by omega
    rw [List.take_length, show ys.take xs.length = ys by rw [HL.out, List.take_length]] at *
    have HW := hid hwr; have HF := hid hF;clear hwr hF;go_wp2
    go_ret;exact ⟨rfl, HW.out, HF.out⟩
end Go.Proofs.YteokhhepnoelhaaGreatDoor
