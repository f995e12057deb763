/-
  addVW (204): a carry of 0 or 1 added to a row of words.
-/
import Derived.Test.YteokhhepnoelhaaGreatDoorXbf
import Derived.Test.YteokhhepnoelhaaGreatDoorXac
import Derived.Test.YteokhhepnoelhaaGreatDoorXag
import Derived.Deep.QuietTactic
import Derived.BigQuiet
import Derived.StillTailTactics
set_option linter.unusedVariables false
set_option linter.unusedSimpArgs false
namespace Go.Proofs.YteokhhepnoelhaaGreatDoor
open Go.RowKit
theorem info105 : ∃ j, Tryz.prog.info? 105 = some j ∧ j.size ≠ 0 := by
 obtain ⟨j, hj, hs⟩ := Option.map_eq_some_iff.1 Tryz.size105;exact ⟨j, hj, by rw [hs]; decide⟩
theorem neq285_same (a : Addr) (w : World) : (binOp .neq 285 (.pointer (some a)) (.pointer (some a))).run Tryz.prog w = .ok (.bool false) w := by
 obtain ⟨j, hj, _⟩ := info105;exact run_neq_ptr_same w a Tryz.underlying285 hj
theorem neq285_other {a b : Addr} {ca cb : Array Value} {ta tb : TypeId} (w : World) (hne : a ≠ b) (ha : w.heap[a.block]? = some (.cells ca ta (0, 0))) (hb : w.heap[b.block]? = some (.cells cb tb (0, 0))) :
 (binOp .neq 285 (.pointer (some a)) (.pointer (some b))).run Tryz.prog w = .ok (.bool true) w := by
 obtain ⟨j, hj, hz⟩ := info105;exact run_neq_ptr_other w Tryz.underlying285 hj hz hne ha hb
def AddWRes (gz oz : Nat) (csz : Array Value) (xs : List Nat) (y : Nat) (w : World) (e : Ending) (w' : World) : Prop :=
 e = .returned (.int .u64 ((acC xs y : Nat) : Int)) ∧ w'.heap[gz]? = some (.cells (putV csz oz (u64s (acZ xs y))) 105 (0, 0)) ∧ Fr (fun i => i = gz) w w'
theorem addW_end {gz oz k : Nat} {csz cs : Array Value} {xs : List Nat} {y : Nat} {w w' : World} (hbx : ∀ x ∈ xs, x < WB) (hk : k ≤ xs.length) (hc : acC (xs.take k) y = 0)
 (hh : w'.heap[gz]? = some (.cells cs 105 (0, 0))) (hcs : cs = putV (putV csz oz (u64s (acZ (xs.take k) y))) (oz + k) (u64s (xs.drop k))) (hF : Fr (fun i => i = gz) w w') : AddWRes gz oz csz xs y w (.returned (.int .u64 0)) w' := by
 have h := ac_append (xs.take k) (xs.drop k) y;rw [List.take_append_drop, hc] at h;have h0 := ac_zero (xs.drop k) (fun x hx => hbx x (List.mem_of_mem_drop hx));rw [h0.1, h0.2] at h;refine ⟨by rw [h.2]; rfl, ?_, hF⟩;rw [hh, hcs, h.1, u64s_append, putV_append, u64s_length, acZ_length, List.length_take, Nat.min_eq_left hk]
set_option maxRecDepth 100000 in
set_option maxHeartbeats 4000000 in
theorem addVW_any (gz oz cz gx ox cx : Nat) (csz csx : Array Value) (xs : List Nat) (y : Nat) (w : World)
 (hz : w.heap[gz]? = some (.cells csz 105 (0, 0))) (hzn : oz + xs.length ≤ csz.size) (hgx : w.heap[gx]? = some (.cells csx 105 (0, 0)))
 (hx : ∀ (j x : Nat), xs[j]? = some x → csx[ox + j]? = some (.int .u64 (x : Int))) (hax : gx = gz → ox = oz)
 (hbx : ∀ x ∈ xs, x < WB) (hy : y ≤ 1) (hne : 1 ≤ xs.length) (hlen : xs.length ≤ 1000) (hcz : xs.length ≤ cz) (hcx : xs.length ≤ cx) :
 Calls Tryz.prog 204 #[.slice (some ⟨gz, oz, none⟩) xs.length cz, .slice (some ⟨gx, ox, none⟩) xs.length cx, .int .u64 (y : Int)] w (AddWRes gz oz csz xs y w) := by
 obtain ⟨x0, hx0⟩ : ∃ x, xs[0]? = some x := ⟨_, List.getElem?_eq_getElem (by omega)⟩
 have hx0b : x0 < WB := hbx x0 (List.mem_of_getElem? hx0);have hsz : ∀ k, (putV csz oz (u64s (acZ (xs.take k) y))).size = csz.size := fun k => putV_size _ _ _
 -- what a word's store makes
 have hsnoc : ∀ (k x : Nat), xs[k]? = some x → acZ (xs.take (k + 1)) y = acZ (xs.take k) y ++ [(x + acC (xs.take k) y) % WB] ∧ acC (xs.take (k + 1)) y = (x + acC (xs.take k) y) / WB := by
  intro k x hk;have h := ac_append (xs.take k) [x] y;rw [List.take_add_one, hk];exact h
 have hput : ∀ (k x : Nat), xs[k]? = some x → ∀ (u : Nat), u = (x + acC (xs.take k) y) % WB → (putV csz oz (u64s (acZ (xs.take k) y))).setIfInBounds (oz + k) (.int .u64 (u : Int)) = putV csz oz (u64s (acZ (xs.take (k + 1)) y)) := by
  intro k x hk u hu;have hlt := (List.getElem?_eq_some_iff.1 hk).1;rw [(hsnoc k x hk).1, u64s_append, ← hu];have := putV_snoc (u64s (acZ (xs.take k) y)) (.int .u64 (u : Int)) csz oz;rw [u64s_length, acZ_length, List.length_take, Nat.min_eq_left (by omega)] at this;exact this.symm
 -- the end where z and x are one row
 have hself : gx = gz → ∀ k w', k ≤ xs.length → acC (xs.take k) y = 0 → w'.heap[gz]? = some (.cells (putV csz oz (u64s (acZ (xs.take k) y))) 105 (0, 0)) → Fr (fun i => i = gz) w w' → AddWRes gz oz csz xs y w (.returned (.int .u64 0)) w' := by
  intro e k w' hk hc hh hF;refine addW_end hbx hk hc hh ?_ hF;symm
  refine putV_keep _ _ _ (fun j v hj => ?_);rw [u64s_get, List.getElem?_drop] at hj;obtain ⟨x, hxj, rfl⟩ := Option.map_eq_some_iff.1 hj;have ho := hax e;subst e; subst ho;have ecs : csz = csx := by
   have := hz.symm.trans hgx;simpa using this
  rw [putV_get_out _ _ _ _ (.inr (by rw [u64s_length, acZ_length, List.length_take, Nat.min_eq_left hk]; omega)), ecs, Nat.add_assoc];exact hx _ x hxj
 -- the end where they are not: behind the copy
 have hcopy : gx ≠ gz → ∀ k w', k ≤ xs.length → acC (xs.take k) y = 0 → w'.heap[gz]? = some (.cells (putV csz oz (u64s (acZ (xs.take k) y))) 105 (0, 0)) → Fr (fun i => i = gz) w w' →
  AddWRes gz oz csz xs y w (.returned (.int .u64 0)) (w'.setRow gz ((putV csz oz (u64s (acZ (xs.take k) y))).toList.take (oz + k) ++ (u64s (xs.drop k) ++ (putV csz oz (u64s (acZ (xs.take k) y))).toList.drop (oz + k + (u64s (xs.drop k)).length))).toArray) := by
  intro e k w' hk hc hh hF;have hfit : oz + k + (u64s (xs.drop k)).length ≤ (putV csz oz (u64s (acZ (xs.take k) y))).size := by rw [u64s_length, List.length_drop, hsz]; omega
  rw [copy_putV _ _ _ hfit];exact addW_end hbx hk hc (setRow_heap w' gz _ _ _ _ hh) rfl (Fr.setRow hF (fun _ => rfl) _)
 have hdone : ∀ w', acC xs y = 1 → w'.heap[gz]? = some (.cells (putV csz oz (u64s (acZ xs y))) 105 (0, 0)) → Fr (fun i => i = gz) w w' → AddWRes gz oz csz xs y w (.returned (.int .u64 1)) w' :=
  fun w' hc hh hF => ⟨by rw [hc]; rfl, hh, hF⟩
 have hcopy0 : gx ≠ gz → ∀ k w', k = xs.length → acC (xs.take k) y = 0 → w'.heap[gz]? = some (.cells (putV csz oz (u64s (acZ (xs.take k) y))) 105 (0, 0)) → Fr (fun i => i = gz) w w' → AddWRes gz oz csz xs y w (.returned (.int .u64 0)) w' := by
  intro e k w' hk hc hh hF;subst hk;rw [List.take_length] at hh hc;exact ⟨by rw [hc]; rfl, hh, hF⟩
 have hsrc : ∀ k, ∀ w', gx ≠ gz → Fr (fun i => i = gz) w w' → ∀ (j : Nat) (u : Value), (u64s (xs.drop k))[j]? = some u → w'.cell? ((⟨gx, ox + k, none⟩ : Addr).add j) = some u := by
  intro k w' e hF j u hj;rw [add_plain];rw [u64s_get, List.getElem?_drop] at hj;obtain ⟨x, hxj, rfl⟩ := Option.map_eq_some_iff.1 hj;rw [blk_cell (hF.blk hgx e), Nat.add_assoc];exact hx _ x hxj
 have h1c : ∀ k, ∀ u ∈ u64s (xs.drop k), u.oneCell' = true := fun k u hu => by
  obtain ⟨x, _, rfl⟩ := List.mem_map.1 hu;rfl
 have hxc : ∀ (k x : Nat) (wr : World), xs[k]? = some x → wr.heap[gz]? = some (.cells (putV csz oz (u64s (acZ (xs.take k) y))) 105 (0, 0)) → Fr (fun i => i = gz) w wr → wr.cell? ⟨gx, ox + k, none⟩ = some (.int .u64 (x : Int)) ∧ ∃ v, wr.cell? ⟨gz, oz + k, none⟩ = some v := by
  intro k x wr hk hwr hF;have hlt := (List.getElem?_eq_some_iff.1 hk).1;constructor
  · by_cases e : gx = gz
    · have ho := hax e;subst e; subst ho;have ecs : csz = csx := by
       have := hz.symm.trans hgx;simpa using this
      rw [blk_cell hwr, putV_get_out _ _ _ _ (.inr (by rw [u64s_length, acZ_length, List.length_take, Nat.min_eq_left (by omega)]; omega)), ecs];exact hx k x hk
    · rw [blk_cell (hF.blk hgx e)];exact hx k x hk
  · rw [blk_cell hwr];exact ⟨_, Array.getElem?_eq_getElem (by rw [hsz]; omega)⟩
 have HXC := hid hxc;clear hxc;have HSELF := hid hself; have HCOPY := hid hcopy; have HDONE := hid hdone; have HC0 := hid hcopy0; have HSRC := hid hsrc; have H1C := hid h1c; have HPUT := hid hput; have HSN := hid hsnoc; have HSZ := hid hsz;have HZ := hid hz; have HGX := hid hgx; have HX := hid hx; have HAX := hid hax; have HBX := hid hbx; have HX0 := hid hx0;have M := hid (bitsAdd x0 y 0 (by omega));simp only [← WB_eq] at M;have hcell0 : w.cell? ⟨gx, ox, none⟩ = some (.int .u64 (x0 : Int)) := by rw [blk_cell hgx]; exact hx 0 x0 hx0
 obtain ⟨v0, hv0⟩ : ∃ v, csz[oz]? = some v := ⟨_, Array.getElem?_eq_getElem (by omega)⟩
 have hold0 : w.cell? ⟨gz, oz, none⟩ = some v0 := by rw [blk_cell hz]; exact hv0
 have hfz0 : w.frozen? ⟨gz, oz, none⟩ = false := blk_frozen hz _;have hset0 : (w.setCell ⟨gz, oz, none⟩ (.int .u64 (((x0 + y) % WB : Nat) : Int))).heap[gz]? = some (.cells (putV csz oz (u64s (acZ (xs.take 1) y))) 105 (0, 0)) := by
  have h := blk_set hz oz (.int .u64 (((x0 + y) % WB : Nat) : Int));have h2 := hput 0 x0 hx0 ((x0 + y) % WB) (by simp [acC]);rw [show u64s (acZ (xs.take 0) y) = [] by simp [acZ, u64s], putV, Nat.add_zero] at h2;rw [h2] at h;exact h
 have hF0 : Fr (fun i => i = gz) w (w.setCell ⟨gz, oz, none⟩ (.int .u64 (((x0 + y) % WB : Nat) : Int))) := Fr.setCell (S := fun i => i = gz) (p := ⟨gz, oz, none⟩) (Fr.refl _ _) (fun _ => rfl) _;have hc1 : acC (xs.take 1) y = (x0 + y) / WB := by
  have := (hsnoc 0 x0 hx0).2;simpa [acC] using this
 have HS0 := hid hset0; have HF0 := hid hF0; have HC1 := hid hc1;have hq1 : (x0 + y) / WB = 0 ∨ (x0 + y) / WB = 1 := by
  have : (x0 + y) / WB < 2 := (Nat.div_lt_iff_lt_mul WB_pos).2 (by omega);omega
 clear hself hcopy hdone hcopy0 hsrc h1c hput hsnoc hsz hz hgx hx hax hbx hx0 hv0 hset0 hF0 hc1 hx0b;rw [show (x0 + y + 0) = x0 + y from rfl] at M;have n0 : ((xs.length : Int) == 0) = false := beq_eq_false_iff_ne.2 (by omega);have nn : ((xs.length : Int) != (xs.length : Int)) = false := by simp
 generalize hn : xs.length = n at *
 have HN := hid hn;clear hn;have b0 : (0 : Int) < (n : Int) := by omega
 have bn : 0 < n := by omega
 generalize (x0 + y) % WB = lo at *
 generalize (x0 + y) / WB = hi at *
 rcases hq1 with rfl | rfl
 · by_cases e : gx = gz
   · have ho := HAX.out e;subst e; subst ho;have hq := fun m => neq285_same ⟨gx, ox, none⟩ ((w.setCell ⟨gx, ox, none⟩ (.int .u64 (lo : Int))).drewN m)
     go_enter Tryz.func204, Tryz.ntmps204;go_wp2_with (first | (go_at_call 236; refine (M.out _).mono ?_; rintro e w2 ⟨rfl, rfl⟩));go_quiet (fail);go_wp2_with fail;go_ret;exact HSELF.out (by simp) 1 _ (by omega) HC1.out HS0.out (HF0.out.drewN _)
   · have hq := fun m => neq285_other (a := ⟨gz, oz, none⟩) (b := ⟨gx, ox, none⟩) ((w.setCell ⟨gz, oz, none⟩ (.int .u64 (lo : Int))).drewN m) (fun h => e (congrArg Addr.block h).symm) HS0.out (HF0.out.blk HGX.out e)
     have HE := hid e;clear e;have b1 : (1 : Int) ≤ (n : Int) := by omega
     have b2 : (n : Int) ≤ (cz : Int) := by omega
     have b3 : (n : Int) ≤ (cx : Int) := by omega
     by_cases hn1 : n = 1
     · subst hn1;go_enter Tryz.func204, Tryz.ntmps204;go_wp2_with (first | (go_at_call 236; refine (M.out _).mono ?_; rintro e w2 ⟨rfl, rfl⟩));go_quiet (fail);go_wp2_with fail;go_still_tail 4, (by kernel_rfl)
       refine wpList_copy_nothing rfl (.tmp 40) (.tmp 42) 65 65 rfl 105 Tryz.underlying65 Tryz.size105 _ _ _ _ _ _ rfl rfl (by simp) ?_;go_wp2_with fail;all_goals
        go_ret;exact HC0.out HE.out 1 _ rfl HC1.out HS0.out ((HF0.out.drewN _).drew)
     · have c1 : ¬ cz = 1 := by omega
       have c2 : ¬ cx = 1 := by omega
       have L1 : Hid ((u64s (xs.drop 1)).length = Nat.min (n - 1) (n - 1)) := hid (by rw [u64s_length, List.length_drop, HN.out]; exact (Nat.min_self _).symm);have L2 : Hid (oz + 1 + (u64s (xs.drop 1)).length ≤ (putV csz oz (u64s (acZ (xs.take 1) y))).size) := hid (by rw [u64s_length, List.length_drop, HN.out, HSZ.out]; omega);have HCP := hid (HCOPY.out HE.out 1); have HSR0 := hid (HSRC.out 1); have H1 := hid (H1C.out 1);obtain ⟨S1, hS1⟩ : ∃ S, xs.drop 1 = S := ⟨_, rfl⟩
       rw [hS1] at HCP HSR0 H1 L1 L2;clear hS1;go_enter Tryz.func204, Tryz.ntmps204;go_wp2_with (first | (go_at_call 236; refine (M.out _).mono ?_; rintro e w2 ⟨rfl, rfl⟩));go_quiet (fail);go_wp2_with fail;have HSR := hid (HSR0.out _ HE.out ((HF0.out.drewN nq).drew));go_still_tail 4, (by kernel_rfl)
       go_wp2_with (refine wpList_copy_own rfl (.tmp 40) (.tmp 42) 65 65 rfl 105 Tryz.underlying65 Tryz.size105 gz (oz + 1) (n - 1) (cz - 1) ⟨gx, ox + 1, none⟩ (n - 1) (cx - 1) rfl rfl _ 105 HS0.out (u64s S1) L1.out HSR.out L2.out H1.out ?_);go_ret;exact HCP.out ((w.setCell ⟨gz, oz, none⟩ (.int .u64 (lo : Int))).drewN nq).drew (by omega) HC1.out HS0.out ((HF0.out.drewN _).drew)
 · go_enter Tryz.func204, Tryz.ntmps204;go_wp2_with (first | (go_at_call 236; refine (M.out _).mono ?_; rintro e w2 ⟨rfl, rfl⟩));go_loopw [9] (fun i wr => ∃ k : Nat, 1 ≤ k ∧ k ≤ n ∧ i = .int .i64 k ∧ acC (xs.take k) y = 1 ∧ wr.heap[gz]? = some (.cells (putV csz oz (u64s (acZ (xs.take k) y))) 105 (0, 0)) ∧ Fr (fun i => i = gz) w wr) (fun i _ => n - (intOf i).toNat);case atStart => exact ⟨1, by omega, by omega, rfl, HC1.out, HS0.out, HF0.out⟩
   case round =>
    obtain ⟨k, hk1, hk, rfl, hck, hwr, hF⟩ := hrel;by_cases hlt : k < n
    · obtain ⟨x, hxk⟩ : ∃ x, xs[k]? = some x := ⟨_, List.getElem?_eq_getElem (by rw [HN.out]; exact hlt)⟩
      have hxb : x < WB := HBX.out x (List.mem_of_getElem? hxk);obtain ⟨hcx, v1, hcz⟩ := HXC.out k x wr hxk hwr hF;have hfz : wr.frozen? ⟨gz, oz + k, none⟩ = false := blk_frozen hwr _;have hsn := (HSN.out k x hxk).2;rw [hck] at hsn;have HCK := hid hck; have HXK := hid hxk; have HW := hid hwr; have HF := hid hF;by_cases hmax : x + 1 = WB
      · have ht : ((x : Int) != 18446744073709551615) = false := by
         rw [WB_eq] at hmax;have : (x : Int) = 18446744073709551615 := by omega
         rw [this]; rfl
        have hset := blk_set hwr (oz + k) (.int .u64 0);have h2 := HPUT.out k x hxk 0 (by rw [hck, hmax]; exact (Nat.mod_self _).symm);rw [show ((0 : Nat) : Int) = 0 from rfl] at h2;rw [h2] at hset;rw [hmax, Nat.div_self WB_pos] at hsn;have HSET := hid hset; have HC2 := hid hsn;clear hset h2 hsn hwr hF hck hxk hxb hmax;go_wp2_with fail;go_roundw;case rel => exact ⟨k + 1, by omega, by omega, by go_num, HC2.out, HSET.out, HF.out.setCell (fun _ => rfl) _⟩
        case measure => simp [intOf]; omega
      · have ht : ((x : Int) != 18446744073709551615) = true := by
         rw [WB_eq] at hmax;have : (x : Int) ≠ 18446744073709551615 := by omega
         simpa using this
        have hwp : IntKind.u64.wrap ((x : Int) + 1) = ((x + 1 : Nat) : Int) := by
         rw [u64_wrap]; rw [WB_eq] at hmax hxb; omega
        have hset := blk_set hwr (oz + k) (.int .u64 ((x + 1 : Nat) : Int));rw [HPUT.out k x hxk (x + 1) (by rw [hck]; exact (Nat.mod_eq_of_lt (by omega)).symm)] at hset;rw [Nat.div_eq_of_lt (by omega)] at hsn;have hF1 : Fr (fun i => i = gz) w (wr.setCell ⟨gz, oz + k, none⟩ (.int .u64 ((x + 1 : Nat) : Int))) := HF.out.setCell (p := ⟨gz, oz + k, none⟩) (fun _ => rfl) _;have HSET := hid hset; have HC2 := hid hsn; have HF1 := hid hF1;clear hset hsn hwr hF hck hxk hxb hmax hF1;generalize hx1 : ((x + 1 : Nat) : Int) = x1 at *
        clear hx1;by_cases e : gx = gz
        · have ho := HAX.out e;subst e; subst ho;have hq := fun m => neq285_same ⟨gx, ox, none⟩ ((wr.setCell ⟨gx, ox + k, none⟩ (.int .u64 x1)).drewN m)
          go_wp2_with fail;go_quiet (fail);go_wp2_with fail;go_ret;exact HSELF.out (by simp) (k + 1) _ (by omega) HC2.out HSET.out (HF1.out.drewN _)
        · have hq := fun m => neq285_other (a := ⟨gz, oz, none⟩) (b := ⟨gx, ox, none⟩) ((wr.setCell ⟨gz, oz + k, none⟩ (.int .u64 x1)).drewN m) (fun h => e (congrArg Addr.block h).symm) HSET.out (HF1.out.blk HGX.out e)
          have HE := hid e;clear e;have b1 : (0 : Int) ≤ (k : Int) + 1 := by omega
          have b2 : (k : Int) + 1 ≤ (n : Int) := by omega
          have b3 : (n : Int) ≤ (cz : Int) := by omega
          have b4 : (n : Int) ≤ (cx : Int) := by omega
          have b5 : IntKind.i64.wrap ((k : Int) + 1) = (k : Int) + 1 := IntWalk.i64_in _ (by omega);have b6 : ((k : Int) + 1).toNat = k + 1 := by omega
          by_cases hn1 : k + 1 = n
          · go_wp2_with fail;go_quiet (fail);go_wp2_with fail;go_still_tail 8, (by kernel_rfl)
            refine wpList_copy_nothing rfl (.tmp 69) (.tmp 73) 65 65 rfl 105 Tryz.underlying65 Tryz.size105 _ _ _ _ _ _ rfl rfl (by simp) ?_;go_wp2_with fail;all_goals
             go_ret;exact HC0.out HE.out (k + 1) _ hn1 HC2.out HSET.out ((HF1.out.drewN _).drew)
          · have c1 : ¬ cz = k + 1 := by omega
            have c2 : ¬ cx = k + 1 := by omega
            have L1 : Hid ((u64s (xs.drop (k + 1))).length = Nat.min (n - (k + 1)) (n - (k + 1))) := hid (by rw [u64s_length, List.length_drop, HN.out]; exact (Nat.min_self _).symm);have L2 : Hid (oz + (k + 1) + (u64s (xs.drop (k + 1))).length ≤ (putV csz oz (u64s (acZ (xs.take (k + 1)) y))).size) := hid (by rw [u64s_length, List.length_drop, HN.out, HSZ.out]; omega);go_wp2_with fail;go_quiet (fail);go_wp2_with fail;have HSR := hid (HSRC.out (k + 1) _ HE.out ((HF1.out.drewN nq).drew));go_still_tail 8, (by kernel_rfl)
            go_wp2_with (refine wpList_copy_own rfl (.tmp 69) (.tmp 73) 65 65 rfl 105 Tryz.underlying65 Tryz.size105 gz (oz + (k + 1)) (n - (k + 1)) (cz - (k + 1)) ⟨gx, ox + (k + 1), none⟩ (n - (k + 1)) (cx - (k + 1)) rfl rfl _ 105 HSET.out (u64s (xs.drop (k + 1))) L1.out HSR.out L2.out (H1C.out (k + 1)) ?_);go_ret;exact HCOPY.out HE.out (k + 1) ((wr.setCell ⟨gz, oz + k, none⟩ (.int .u64 x1)).drewN nq).drew (by omega) HC2.out HSET.out ((HF1.out.drewN _).drew)
    · obtain rfl : k = n := by omega
      have HCK := hid hck; have HW := hid hwr; have HF := hid hF;clear hck hwr hF;go_wp2_with fail;go_ret;have ht : xs.take k = xs := by rw [← HN.out]; exact List.take_length
      have h1 := HCK.out; have h2 := HW.out;rw [ht] at h1 h2;exact HDONE.out _ h1 h2 HF.out
theorem adZ_one (x y : Nat) : adZ [x] [y] 0 = [(x + y) % WB] ∧ adC [x] [y] 0 = (x + y) / WB := ⟨rfl, rfl⟩
set_option maxRecDepth 100000 in
set_option maxHeartbeats 4000000 in
theorem natAddOne (v vx vy : Value) (zs : List Nat) (X y : Nat) (w : World) (hv : NatAt w v zs) (hvx : NatAt w vx (limbs X)) (hvy : NatAt w vy [y]) (h0 : X ≠ 0) (hy : y < WB) (hny : ∀ g, natBlk vy = some g → natBlk v ≠ some g) (hl : (limbs X).length ≤ 90) :
 Calls Tryz.prog 175 #[v, vx, vy] w (NatRes w v (X + y)) := by
 have hl1 := limbs_len_pos h0;obtain ⟨gx, capx, csx, hvx', hgx, hcx1, hcx2, hcx3, hcx⟩ : ∃ g cap cs, vx = .slice (some ⟨g, 0, none⟩) (limbs X).length cap ∧ w.heap[g]? = some (.cells cs 105 (0, 0)) ∧ cap ≤ cs.size ∧ (limbs X).length ≤ cap ∧ cap ≤ 1000000 ∧ ∀ (j x : Nat), (limbs X)[j]? = some x → cs[j]? = some (.int .u64 (x : Int)) := by
  rcases hvx with ⟨_, h⟩ | h;· rw [h] at hl1; exact absurd hl1 (by simp)
  · exact h
 obtain ⟨gy, capy, csy, hvy', hgy, hcy1, hcy2, hcy3, hcy⟩ : ∃ g cap cs, vy = .slice (some ⟨g, 0, none⟩) 1 cap ∧ w.heap[g]? = some (.cells cs 105 (0, 0)) ∧ cap ≤ cs.size ∧ 1 ≤ cap ∧ cap ≤ 1000000 ∧ ∀ (j x : Nat), ([y] : List Nat)[j]? = some x → cs[j]? = some (.int .u64 (x : Int)) := by
  rcases hvy with ⟨_, h⟩ | h;· cases h
  · exact h
 have hne : ∀ g, natBlk v = some g → gy ≠ g := fun g hg e => hny gy (by rw [hvy']; rfl) (by rw [e]; exact hg)
 subst hvx'; subst hvy';obtain ⟨x0, xr, hxs⟩ : ∃ x0 xr, limbs X = x0 :: xr := by
  cases h : limbs X with
  | nil => rw [h] at hl1; simp at hl1
  | cons a b => exact ⟨a, b, rfl⟩
 have hbx := limbs_lt X;have hval := nval_addOne x0 y xr;rw [← hxs, nval_limbs] at hval;have hm : (limbs X).length = xr.length + 1 := by rw [hxs]; rfl
 have HM := hid (natMake v zs (xr.length + 1 + 1) w hv (by omega) (by omega));have hX0 : (limbs X)[0]? = some x0 := by rw [hxs]; rfl
 have hXr : ∀ j, (limbs X)[j + 1]? = xr[j]? := by intro j; rw [hxs]; rfl
 have hx0b : x0 < WB := hbx x0 (by rw [hxs]; simp);have hbr : ∀ x ∈ xr, x < WB := fun x hx => hbx x (by rw [hxs]; simp [hx])
 have hq1 : (x0 + y) / WB ≤ 1 := by
  have : (x0 + y) / WB < 2 := (Nat.div_lt_iff_lt_mul WB_pos).2 (by omega);omega
 -- the numbers' words, laid and counted
 have hnorm : normL (((x0 + y) % WB :: acZ xr ((x0 + y) / WB)) ++ [acC xr ((x0 + y) / WB)]) = limbs (X + y) := by
  rw [← hval, normL_limbs];intro u hu;rcases List.mem_append.1 hu with hu | hu
  · rcases List.mem_cons.1 hu with rfl | hu
    · exact Nat.mod_lt _ WB_pos
    · exact acZ_lt _ _ u hu
  · simp at hu; subst hu;have := acC_le xr _ hq1 hbr;have := WB_eq;omega
 generalize hmm : (limbs X).length = m at *
 have m1 : 1 ≤ m := hl1;have m90 : m ≤ 90 := hl;rw [← hm] at HM;have HX := hid hcx; have HGX := hid hgx; have HGY := hid hgy; have HY := hid hcy; have HNE := hid hne; have HNORM := hid hnorm; have HX0 := hid hX0; have HXR := hid hXr; have HBR := hid hbr;clear hv hvx hvy hcx hgx hgy hcy hne hnorm hX0 hXr hbr hval hbx hxs hny hl hl1;have HMM := hid hm;clear hm hmm;rw [show ((m + 1 : Nat) : Int) = (m : Int) + 1 by omega] at HM;have e1 : ((m : Int) < 1) = False := eq_false (by omega);have e2 : ((m : Int) == 0) = false := beq_eq_false_iff_ne.2 (by omega);have hcellx0 : w.cell? ⟨gx, 0, none⟩ = some (.int .u64 (x0 : Int)) := by rw [blk_cell HGX.out]; exact HX.out 0 x0 HX0.out
 go_enter Tryz.func175, Tryz.ntmps175;go_wp2_with fail;refine HM.out.mono ?_;rintro e w1 ⟨g, cap, cs, rfl, hg, g1, g2, g3, hF, hgb⟩;have HG := hid hg; have HF := hid hF; have HGB := hid hgb;have hgy : gy ≠ g := by
  rcases hgb with h | h;· exact HNE.out g h
  · have := blk_lt HGY.out; omega
 have HA := hid (addVV_any g 0 cap gx 0 capx gy 0 capy cs [x0] [y] w1.drew hg (by simp; omega) rfl
  (fun j x hj => by
   cases j with
   | zero => cases hj; exact hF.cell' hcellx0 (fun h => h)
   | succ j => simp at hj)
  (fun _ => rfl)
  (fun j x hj => by
   rw [Nat.zero_add, blk_cell (show w1.drew.heap[gy]? = _ from hF.blk HGY.out (fun h => h))];exact HY.out j x hj)
  hgy (fun x hx => by simp at hx; omega) (fun x hx => by simp at hx; omega) (by simp))
 rw [(adZ_one x0 y).1, (adZ_one x0 y).2, show ([x0] : List Nat).length = 1 from rfl] at HA;have HGYN := hid hgy
 -- what the end makes of the words
 have hfin : ∀ (w3 : World), w3.heap[g]? = some (.cells (putV cs 0 (u64s ((x0 + y) % WB :: acZ xr ((x0 + y) / WB)))) 105 (0, 0)) → Fr (fun i => i = g) w1 w3 →
  (∃ u, w3.cell? ⟨g, m, none⟩ = some u) ∧ w3.frozen? ⟨g, m, none⟩ = false ∧
  NatAt (w3.setCell ⟨g, m, none⟩ (.int .u64 ((acC xr ((x0 + y) / WB) : Nat) : Int))) (.slice (some ⟨g, 0, none⟩) (m + 1) cap) (((x0 + y) % WB :: acZ xr ((x0 + y) / WB)) ++ [acC xr ((x0 + y) / WB)]) ∧
  ∀ v' w5, Normed (w3.setCell ⟨g, m, none⟩ (.int .u64 ((acC xr ((x0 + y) / WB) : Nat) : Int))) (.slice (some ⟨g, 0, none⟩) (m + 1) cap) (((x0 + y) % WB :: acZ xr ((x0 + y) / WB)) ++ [acC xr ((x0 + y) / WB)]) (.returned v') w5 → NatRes w v (X + y) (.returned v') w5 := by
  intro w3 h3 hF3;have hxl : xr.length + 1 = m := HMM.out.symm;have hl2 : (u64s ((x0 + y) % WB :: acZ xr ((x0 + y) / WB))).length = m := by rw [u64s_length, List.length_cons, acZ_length]; exact hxl
  have hsz : (putV cs 0 (u64s ((x0 + y) % WB :: acZ xr ((x0 + y) / WB)))).size = cs.size := putV_size _ _ _;have hs := putV_snoc (u64s ((x0 + y) % WB :: acZ xr ((x0 + y) / WB))) (.int .u64 ((acC xr ((x0 + y) / WB) : Nat) : Int)) cs 0;rw [hl2, Nat.zero_add] at hs;have hset := blk_set h3 m (.int .u64 ((acC xr ((x0 + y) / WB) : Nat) : Int));rw [← hs] at hset;have hlen : (((x0 + y) % WB :: acZ xr ((x0 + y) / WB)) ++ [acC xr ((x0 + y) / WB)]).length = m + 1 := by rw [List.length_append, List.length_cons, acZ_length, List.length_singleton, hxl]
  have hnat : NatAt (w3.setCell ⟨g, m, none⟩ (.int .u64 ((acC xr ((x0 + y) / WB) : Nat) : Int))) (.slice (some ⟨g, 0, none⟩) (m + 1) cap) (((x0 + y) % WB :: acZ xr ((x0 + y) / WB)) ++ [acC xr ((x0 + y) / WB)]) := by
   refine .inr ⟨g, cap, _, by rw [hlen], hset, by rw [putV_size]; exact g1, by rw [hlen]; exact g2, g3, fun j x hj => ?_⟩;have hjl := (List.getElem?_eq_some_iff.1 hj).1;rw [hlen] at hjl;have e : u64s ((x0 + y) % WB :: acZ xr ((x0 + y) / WB)) ++ [Value.int .u64 ((acC xr ((x0 + y) / WB) : Nat) : Int)] = u64s (((x0 + y) % WB :: acZ xr ((x0 + y) / WB)) ++ [acC xr ((x0 + y) / WB)]) := by rw [u64s_append]; rfl
   rw [e];have h := putV_get_in (u64s (((x0 + y) % WB :: acZ xr ((x0 + y) / WB)) ++ [acC xr ((x0 + y) / WB)])) cs 0 j (by rw [u64s_length, hlen]; omega) (by rw [u64s_length, hlen]; exact hjl);rw [Nat.zero_add] at h;rw [h, u64s_get, hj];rfl
  refine ⟨by rw [blk_cell h3]; exact ⟨_, Array.getElem?_eq_getElem (by rw [hsz]; omega)⟩, blk_frozen h3 _, hnat, ?_⟩;rintro v' w5 ⟨rfl, u, hu, b1, b2⟩;cases hu;rw [HNORM.out] at b1;refine ⟨v', rfl, b1, ?_, fun g' hg' => ?_⟩
  · exact (((hF.mono (S' := fun i => natBlk v = some i) (fun _ _ h => h.elim)).trans hF3 (fun i hi h => by
     have h : i = g := h;subst h;exact hgb.resolve_right (by omega))).setCell (p := ⟨g, m, none⟩) (fun h => hgb.resolve_right (by have h : g < w.heap.size := h; omega)) _)
  · rw [b2] at hg';cases hg';exact hgb
 have HFIN := hid hfin
 -- x's other words behind the first sum
 have hx2 : ∀ w2 : World, w2.heap[g]? = some (.cells (putV cs 0 (u64s [(x0 + y) % WB])) 105 (0, 0)) → Fr (fun i => i = g) w1.drew w2 → ∃ csx2, w2.heap[gx]? = some (.cells csx2 105 (0, 0)) ∧ ∀ (j x : Nat), xr[j]? = some x → csx2[1 + j]? = some (.int .u64 (x : Int)) := by
  intro w2 h2 hF2;by_cases e : gx = g
  · refine ⟨_, by rw [e]; exact h2, fun j x hj => ?_⟩;have ecs : csx = cs := by
     have h := hF.blk HGX.out (fun h => h);rw [e] at h;have := h.symm.trans hg;simpa using this
    rw [putV_get_out _ _ _ _ (.inr (by simp [u64s])), ← ecs, Nat.add_comm];exact HX.out _ x (by rw [HXR.out]; exact hj)
  · refine ⟨csx, hF2.blk (show w1.drew.heap[gx]? = _ from hF.blk HGX.out (fun h => h)) e, fun j x hj => ?_⟩;rw [Nat.add_comm];exact HX.out _ x (by rw [HXR.out]; exact hj)
 have HX2 := hid hx2;clear hg hF hgb HM hfin hx2;have hy1 : (x0 + y) / WB ≤ 1 := hq1;clear hq1;generalize (x0 + y) % WB = s0 at *
 generalize (x0 + y) / WB = c0 at *
 have c1 : (1 : Int) ≤ (cap : Int) := by omega
 have c2 : (1 : Int) ≤ (capx : Int) := by omega
 have c3 : (1 : Int) ≤ (capy : Int) := by omega
 by_cases hm1 : m = 1
 · have hxr : xr = [] := by
    have := HMM.out;exact List.eq_nil_of_length_eq_zero (by omega)
   subst hxr;subst hm1;rw [show acZ [] c0 = [] from rfl, show acC [] c0 = c0 from rfl] at HFIN;go_wp2_with fail;go_still_tail 9, (by kernel_rfl)
   go_wp2_with (first | (go_at_call 203; refine HA.out.mono ?_; rintro e w2 ⟨rfl, a1, a2⟩; obtain ⟨⟨u, hu⟩, hfz, hn, hd⟩ := HFIN.out w2 a1 (((Fr.refl _ _).drew).trans a2 (fun _ _ h => h)); have HD := hid hd; have HN := hid (natNorm _ _ _ hn); clear a1 a2 hn hd));refine HN.out.mono ?_;rintro e w4 ⟨hw, v', rfl, k1, k2⟩;have N := hid (HD.out v' w4 ⟨hw, v', rfl, k1, k2⟩);clear hw k1 k2;go_wp2_with fail;go_ret;exact N.out
 · have hm2 : ((1 : Int) < (m : Int)) = True := eq_true (by omega);have hxl : xr.length = m - 1 := by have := HMM.out; omega
   have c4 : (m : Int) ≤ (cap : Int) := by omega
   have c5 : (m : Int) ≤ (capx : Int) := by omega
   have c6 : (1 : Int) ≤ (m : Int) := by omega
   have c7 : ¬ cap = 1 := by omega
   have c8 : ¬ capx = 1 := by omega
   go_wp2_with fail;go_still_tail 9, (by kernel_rfl)
   go_wp2_with (first | (go_at_call 203; refine HA.out.mono ?_; rintro e w2 ⟨rfl, a1, a2⟩));obtain ⟨csx2, x1, x2⟩ := HX2.out w2 a1 a2;have hFd : Fr NoB w2 w2.drew := (Fr.refl _ _).drew;have HV := hid (addVW_any g 1 (cap - 1) gx 1 (capx - 1) (putV cs 0 (u64s [s0])) csx2 xr c0 w2.drew (show w2.drew.heap[g]? = _ from a1) (by rw [putV_size]; omega) (show w2.drew.heap[gx]? = _ from x1) x2 (fun _ => rfl) HBR.out hy1 (by omega) (by omega) (by omega) (by omega));rw [hxl] at HV;have HF2 := hid (show Fr (fun i => i = g) w1 w2.drew from (((Fr.refl _ _).drew).trans a2 (fun _ _ h => h)).drew);clear a1 a2 x1 x2 hFd hxl;go_still_tail 8, (by kernel_rfl)
   go_wp2_with (first | (go_at_call 204; refine HV.out.mono ?_; rintro e w3 ⟨rfl, a1, a2⟩; obtain ⟨⟨u, hu⟩, hfz, hn, hd⟩ := HFIN.out w3 a1 (HF2.out.trans a2 (fun _ _ h => h)); have HD := hid hd; have HN := hid (natNorm _ _ _ hn); clear a1 a2 hn hd));refine HN.out.mono ?_;rintro e w4 ⟨hw, v', rfl, k1, k2⟩;have N := hid (HD.out v' w4 ⟨hw, v', rfl, k1, k2⟩);clear hw k1 k2;go_wp2_with fail;go_ret;exact N.out
end Go.Proofs.YteokhhepnoelhaaGreatDoor
