/-
  addMulVVWW, basicMul: rows of words multiplied.
-/
import Derived.Test.YteokhhepnoelhaaGreatDoorLsh
import Derived.Deep.RegionWith
set_option linter.unusedVariables false
set_option linter.unusedSimpArgs false
namespace Go.Proofs.YteokhhepnoelhaaGreatDoor
open Go.RowKit

set_option maxRecDepth 100000 in
set_option maxHeartbeats 1000000 in
theorem addMulVVWW_g (gz oz cz cx gy cy : Nat) (csz : Array Value) (xs ys : List Nat) (m : Nat) (w : World)
    (hz : w.heap[gz]? = some (.cells csz 105 (0, 0))) (hzn : oz + xs.length ≤ csz.size) (hx : ∀ (j x : Nat), xs[j]? = some x → csz[oz + j]? = some (.int .u64 (x : Int)))
    (hy : ∀ (j y : Nat), ys[j]? = some y → w.cell? ⟨gy, j, none⟩ = some (.int .u64 (y : Int))) (hgy : gy ≠ gz)
    (hxb : ∀ x ∈ xs, x < WB) (hyb : ∀ y ∈ ys, y < WB) (hm : m < WB) (hl : xs.length = ys.length) (hlen : xs.length ≤ 1000000) :
    Calls Tryz.prog 315 #[.slice (some ⟨gz, oz, none⟩) xs.length cz, .slice (some ⟨gz, oz, none⟩) xs.length cx, .slice (some ⟨gy, 0, none⟩) xs.length cy, .int .u64 (m : Int), .int .u64 0] w
      fun e w' => e = .returned (.int .u64 (amC xs ys m 0 : Int)) ∧ w'.heap[gz]? = some (.cells (putV csz oz (u64s (amZ xs ys m 0))) 105 (0, 0)) ∧ Fr (fun i => i = gz) w w' := by
  have HZ := hid hz; have HX := hid hx; have HY := hid hy; have HXB := hid hxb; have HYB := hid hyb; have HM := hid hm; have HL := hid hl
  clear hz hx hy hxb hyb hm hl
  go_enter Tryz.func315, Tryz.ntmps315
  go_wp2_with fail
  go_loopw [10, 32] (fun c i wr => ∃ k : Nat, k ≤ xs.length ∧ i = .int .i64 k ∧ c = .int .u64 (amC (xs.take k) (ys.take k) m 0 : Nat) ∧ Hid (wr.heap[gz]? = some (.cells (putV csz oz (u64s (amZ (xs.take k) (ys.take k) m 0))) 105 (0, 0))) ∧ Hid (Fr (fun i => i = gz) w wr)) (fun _ i _ => xs.length - (intOf i).toNat)
  case atStart => exact ⟨0, Nat.zero_le _, rfl, rfl, hid (by simpa [amZ, putV, u64s] using HZ.out), hid (Fr.refl _ _)⟩
  case round =>
    obtain ⟨k, hk, rfl, rfl, hwr, hF⟩ := hrel
    by_cases hlt : k < xs.length
    · have hl := HL.out
      obtain ⟨x, hxk⟩ : ∃ x, xs[k]? = some x := ⟨xs[k], List.getElem?_eq_getElem hlt⟩
      obtain ⟨y, hyk⟩ : ∃ y, ys[k]? = some y := ⟨ys[k]'(by omega), List.getElem?_eq_getElem (by omega)⟩
      have htx : xs.take (k + 1) = xs.take k ++ [x] := by rw [List.take_add_one, hxk]; rfl
      have hty : ys.take (k + 1) = ys.take k ++ [y] := by rw [List.take_add_one, hyk]; rfl
      have htl : (xs.take k).length = (ys.take k).length := by rw [List.length_take, List.length_take, ← hl]
      have hxb : x < WB := HXB.out x (List.mem_of_getElem? hxk)
      have hyb : y < WB := HYB.out y (List.mem_of_getElem? hyk)
      have hcb : amC (xs.take k) (ys.take k) m 0 < WB := amC_lt _ _ HM.out _ _ WB_pos (fun u hu => HXB.out u (List.mem_of_mem_take hu)) (fun u hu => HYB.out u (List.mem_of_mem_take hu))
      have hlk : (u64s (amZ (xs.take k) (ys.take k) m 0)).length = k := by rw [u64s_length, amZ_length _ _ _ _ htl, List.length_take, Nat.min_eq_left hk]
      have hsz : (putV csz oz (u64s (amZ (xs.take k) (ys.take k) m 0))).size = csz.size := putV_size _ _ _
      have hcellx : wr.cell? ⟨gz, oz + k, none⟩ = some (.int .u64 (x : Int)) := by
        rw [blk_cell hwr.out, putV_get_out _ _ _ _ (.inr (by omega))]
        exact HX.out k x hxk
      have hcelly : wr.cell? ⟨gy, k, none⟩ = some (.int .u64 (y : Int)) := hF.out.cell' (HY.out k y hyk) hgy
      have hfz : wr.frozen? ⟨gz, oz + k, none⟩ = false := blk_frozen hwr.out _
      obtain ⟨hs1, hs2⟩ := am_snoc (xs.take k) x y m (ys.take k) 0 htl
      obtain ⟨a1, a2, a3⟩ := amStep x y m (amC (xs.take k) (ys.take k) m 0) hxb hyb HM.out hcb
      have hset := blk_set hwr.out (oz + k) (.int .u64 (((y * m + x + amC (xs.take k) (ys.take k) m 0) % WB : Nat) : Int))
      have hput : (putV csz oz (u64s (amZ (xs.take k) (ys.take k) m 0))).setIfInBounds (oz + k) (.int .u64 (((y * m + x + amC (xs.take k) (ys.take k) m 0) % WB : Nat) : Int)) = putV csz oz (u64s (amZ (xs.take (k + 1)) (ys.take (k + 1)) m 0)) := by
        rw [htx, hty, hs1, u64s_append, show u64s [(y * m + x + amC (xs.take k) (ys.take k) m 0) % WB] = [.int .u64 (((y * m + x + amC (xs.take k) (ys.take k) m 0) % WB : Nat) : Int)] from rfl, putV_snoc, hlk]
      rw [hput] at hset
      have hcn : amC (xs.take (k + 1)) (ys.take (k + 1)) m 0 = (y * m + x + amC (xs.take k) (ys.take k) m 0) / WB := by rw [htx, hty, hs2]
      have HSET := hid hset; have HCN := hid hcn; have HF := hF
      have M := hid (fun w => mulAddWWW y m x hyb HM.out hxb w)
      have A := hid (bitsAdd ((y * m + x) % WB) (amC (xs.take k) (ys.take k) m 0) 0 (by omega))
      simp only [← WB_eq] at A
      have hhi : (y * m + x) / WB < WB := by
        have := am_carry (c := 0) hxb hyb HM.out WB_pos
        simpa using this
      rw [a2] at A
      have ho : (0 : Int) ≤ (k : Int) := by omega
      have hlt' : (k : Int) < (xs.length : Int) := by omega
      clear hset hcn hput hwr hF hsz hlk htx hty hxk hyk hs1 hs2 a2 htl hl
      have hsum : ((((y * m + x) % WB + amC (xs.take k) (ys.take k) m 0 + 0) / WB : Nat) : Int) + (((y * m + x) / WB : Nat) : Int) = (((y * m + x + amC (xs.take k) (ys.take k) m 0) / WB : Nat) : Int) := by rw [← a1]; simp
      have HSUM := hid hsum
      clear hsum a1
      generalize amC (xs.take k) (ys.take k) m 0 = c at *
      generalize (y * m + x + c) % WB = lo at *
      generalize (y * m + x + c) / WB = hi at *
      generalize ((y * m + x) % WB + c + 0) / WB = q1 at *
      generalize (y * m + x) / WB = q2 at *
      generalize (y * m + x) % WB = q3 at *
      rw [WB_eq] at a3 hxb hyb hcb hhi
      have hs3 : 0 ≤ (q1 : Int) + (q2 : Int) ∧ (q1 : Int) + (q2 : Int) ≤ 18446744073709551615 := by have := HSUM.out; omega
      go_wp2_with fail
      go_quiet ((go_at_call 295; exact Calls.quiet_of_same ((M.out _).mono fun e w' h => ⟨h.1, h.2.symm⟩)))
      go_wp2_with fail
      refine (A.out _).mono ?_
      rintro e w2 ⟨rfl, rfl⟩
      go_wp2_with fail
      go_roundw
      case rel => exact ⟨k + 1, by omega, by go_num, by rw [HCN.out]; exact congrArg (Value.int .u64) HSUM.out, hid HSET.out, hid (Fr.setCell (S := fun i => i = gz) (p := ⟨gz, oz + k, none⟩) (HF.out.drewN _) (fun _ => rfl) _)⟩
      case measure => simp [intOf]; omega
    · obtain rfl : k = xs.length := by omega
      have hl := HL.out
      have ht : xs.take xs.length = xs := List.take_length
      have ht2 : ys.take xs.length = ys := by rw [hl, List.take_length]
      have hw := hwr.out
      rw [ht, ht2] at hw ⊢
      have HW := hid hw
      clear ht ht2 hl hw hwr
      go_wp2_with fail
      go_ret
      exact ⟨rfl, HW.out, hF.out⟩

set_option maxRecDepth 100000 in
theorem addMulVVWW (gz oz cz cx gy cy : Nat) (csz : Array Value) (xs ys : List Nat) (m : Nat) (w : World)
    (hz : w.heap[gz]? = some (.cells csz 105 (0, 0))) (hzn : oz + xs.length ≤ csz.size) (hx : ∀ (j x : Nat), xs[j]? = some x → csz[oz + j]? = some (.int .u64 (x : Int)))
    (hy : ∀ (j y : Nat), ys[j]? = some y → w.cell? ⟨gy, j, none⟩ = some (.int .u64 (y : Int))) (hgy : gy ≠ gz)
    (hxb : ∀ x ∈ xs, x < WB) (hyb : ∀ y ∈ ys, y < WB) (hm : m < WB) (hl : xs.length = ys.length) (hlen : xs.length ≤ 1000000) :
    Calls Tryz.prog 293 #[.slice (some ⟨gz, oz, none⟩) xs.length cz, .slice (some ⟨gz, oz, none⟩) xs.length cx, .slice (some ⟨gy, 0, none⟩) xs.length cy, .int .u64 (m : Int), .int .u64 0] w
      fun e w' => e = .returned (.int .u64 (amC xs ys m 0 : Int)) ∧ w'.heap[gz]? = some (.cells (putV csz oz (u64s (amZ xs ys m 0))) 105 (0, 0)) ∧ Fr (fun i => i = gz) w w' := by
  have H := hid (addMulVVWW_g gz oz cz cx gy cy csz xs ys m w hz hzn hx hy hgy hxb hyb hm hl hlen)
  clear hz hx hy hxb hyb hm hl hlen hzn
  generalize putV csz oz (u64s (amZ xs ys m 0)) = A at *
  generalize amC xs ys m 0 = c at *
  generalize xs.length = n at *
  go_enter Tryz.func293, Tryz.ntmps293
  go_wp2_with fail
  refine H.out.mono ?_
  rintro e w1 ⟨rfl, h1, h2⟩
  have H1 := hid h1; have H2 := hid h2
  clear h1 h2
  go_wp2_with fail
  go_ret
  exact ⟨rfl, H1.out, H2.out⟩

/-- What basicMul has laid behind k words of y. -/
def MulAt (w : World) (gz sz n l X : Nat) (ys : List Nat) (k : Nat) : Prop :=
  ∃ (A : Array Value) (L : List Nat), w.heap[gz]? = some (.cells A 105 (0, 0)) ∧ A.size = sz ∧ L.length = n + l ∧ (∀ u ∈ L, u < WB) ∧ (∀ (j u : Nat), L[j]? = some u → A[j]? = some (.int .u64 (u : Int))) ∧
    nval (L.take (n + k)) = X * nval (ys.take k) ∧ ∀ j, n + k ≤ j → j < n + l → L[j]? = some 0

/-- A row's step on the list. -/
theorem mul_step {L xs ys : List Nat} {n l X k y : Nat} (hxn : xs.length = n) (hX : nval xs = X) (hL : L.length = n + l) (hb : ∀ u ∈ L, u < WB) (hxb : ∀ u ∈ xs, u < WB) (hy : y < WB)
    (hv : nval (L.take (n + k)) = X * nval (ys.take k)) (hz : ∀ j, n + k ≤ j → j < n + l → L[j]? = some 0) (hk : k < l) (hyk : ys[k]? = some y) :
    let T := amZ ((L.drop k).take n) xs y 0 ++ [amC ((L.drop k).take n) xs y 0]
    let L' := L.take k ++ (T ++ L.drop (n + k + 1))
    L'.length = n + l ∧ (∀ u ∈ L', u < WB) ∧ nval (L'.take (n + (k + 1))) = X * nval (ys.take (k + 1)) ∧ ∀ j, n + (k + 1) ≤ j → j < n + l → L'[j]? = some 0 := by
  intro T L'
  have hmid : ((L.drop k).take n).length = n := by rw [List.length_take, List.length_drop]; omega
  have hlo : (L.take k).length = k := by rw [List.length_take]; omega
  have hT : T.length = n + 1 := by rw [List.length_append, amZ_length _ _ _ _ (by omega), hmid]; rfl
  have hT1 : (L.take k ++ T).length = n + (k + 1) := by rw [List.length_append, hlo, hT]; omega
  have hLL : L' = (L.take k ++ T) ++ L.drop (n + k + 1) := by simp [L', List.append_assoc]
  refine ⟨by rw [hLL, List.length_append, hT1, List.length_drop]; omega, fun u hu => ?_, ?_, fun j h1 h2 => ?_⟩
  · rw [hLL] at hu
    rcases List.mem_append.1 hu with h | h
    · rcases List.mem_append.1 h with h | h
      · exact hb u (List.mem_of_mem_take h)
      · rcases List.mem_append.1 h with h | h
        · exact amZ_lt _ _ _ _ u h
        · simp at h; subst h
          exact amC_lt _ _ hy _ _ WB_pos (fun v hv => hb v (List.mem_of_mem_drop (List.mem_of_mem_take hv))) hxb
    · exact hb u (List.mem_of_mem_drop h)
  · rw [hLL, List.take_left' hT1, nval_take_succ ys k y hyk]
    refine row_step hlo hmid hxn hX ?_
    rw [← hv, show n + k = k + n by omega, List.take_add]
  · rw [hLL, List.getElem?_append_right (by omega), hT1, List.getElem?_drop]
    rw [show n + k + 1 + (j - (n + (k + 1))) = j by omega]
    exact hz j (by omega) h2

theorem sub_get {L : List Nat} {k n j u : Nat} (h : ((L.drop k).take n)[j]? = some u) : L[k + j]? = some u := by
  rw [List.getElem?_take] at h
  split at h
  · rw [List.getElem?_drop] at h; exact h
  · cases h

theorem mul_cells {A : Array Value} {L T : List Nat} {k n l : Nat} (hA : n + l ≤ A.size) (hL : L.length = n + l) (hk : k < l) (hT : T.length = n + 1) (h5 : ∀ (j u : Nat), L[j]? = some u → A[j]? = some (.int .u64 (u : Int))) :
    ∀ (j u : Nat), (L.take k ++ (T ++ L.drop (n + k + 1)))[j]? = some u → (putV A k (u64s T))[j]? = some (.int .u64 (u : Int)) := by
  intro j u hj
  have hlo : (L.take k).length = k := by rw [List.length_take]; omega
  by_cases h1 : j < k
  · rw [putV_get_out _ _ _ _ (.inl h1)]
    rw [List.getElem?_append_left (by omega), List.getElem?_take_of_lt h1] at hj
    exact h5 j u hj
  · rw [List.getElem?_append_right (by omega), hlo] at hj
    by_cases h2 : j < k + (n + 1)
    · rw [List.getElem?_append_left (by omega)] at hj
      have := putV_get_in (u64s T) A k (j - k) (by rw [u64s_length]; omega) (by rw [u64s_length]; omega)
      rw [show k + (j - k) = j by omega] at this
      rw [this, u64s_get, hj]
      rfl
    · rw [putV_get_out _ _ _ _ (.inr (by rw [u64s_length]; omega))]
      rw [List.getElem?_append_right (by omega), hT, List.getElem?_drop, show n + k + 1 + (j - k - (n + 1)) = j by omega] at hj
      exact h5 j u hj

set_option maxRecDepth 100000 in
set_option maxHeartbeats 2000000 in
theorem basicMul (gz cz gx cx gy cy : Nat) (csz : Array Value) (xs ys : List Nat) (w : World)
    (hz : w.heap[gz]? = some (.cells csz 105 (0, 0))) (hzn : xs.length + ys.length ≤ csz.size) (hcz : xs.length + ys.length ≤ cz)
    (hx : ∀ (j x : Nat), xs[j]? = some x → w.cell? ⟨gx, j, none⟩ = some (.int .u64 (x : Int))) (hgx : gx ≠ gz)
    (hy : ∀ (j y : Nat), ys[j]? = some y → w.cell? ⟨gy, j, none⟩ = some (.int .u64 (y : Int))) (hgy : gy ≠ gz)
    (hxb : ∀ x ∈ xs, x < WB) (hyb : ∀ y ∈ ys, y < WB) (hlx : xs.length ≤ 1000) (hly : ys.length ≤ 1000) (hlx1 : 1 ≤ xs.length) (hly1 : 1 ≤ ys.length) :
    Calls Tryz.prog 254 #[.slice (some ⟨gz, 0, none⟩) (xs.length + ys.length) cz, .slice (some ⟨gx, 0, none⟩) xs.length cx, .slice (some ⟨gy, 0, none⟩) ys.length cy] w
      fun e w' => e = .returned (.tuple #[]) ∧ MulAt w' gz csz.size xs.length ys.length (nval xs) ys ys.length ∧ Fr (fun i => i = gz) w w' := by
  have HZ := hid hz; have HX := hid hx; have HY := hid hy; have HXB := hid hxb; have HYB := hid hyb
  have hcl := fun ty => run_clear66 gz (xs.length + ys.length) cz csz ty w hz (by omega)
  have h0 : MulAt (w.setCells gz 0 (zeros (xs.length + ys.length))) gz csz.size xs.length ys.length (nval xs) ys 0 := by
    refine ⟨_, List.replicate (xs.length + ys.length) 0, setCells_blk gz 105 _ 0 csz w hz, putV_size _ _ _, by simp, fun u hu => by rw [List.eq_of_mem_replicate hu]; exact WB_pos, fun j u hj => ?_, ?_, fun j h1 h2 => ?_⟩
    · have hlt := (List.getElem?_eq_some_iff.1 hj).1
      rw [List.length_replicate] at hlt
      have hu : u = 0 := List.eq_of_mem_replicate (List.mem_of_getElem? hj)
      subst hu
      have := putV_get_in (zeros (xs.length + ys.length)) csz 0 j (by simp [zeros]; omega) (by simp [zeros]; exact hlt)
      rw [Nat.zero_add] at this
      rw [this]
      simp [zeros, hlt]
    · rw [List.take_replicate, nval_zeros, List.take_zero]; rfl
    · rw [List.getElem?_replicate, if_pos h2]
  have hF0 : Fr (fun i => i = gz) w (w.setCells gz 0 (zeros (xs.length + ys.length))) := Fr.setCells (S := fun i => i = gz) gz _ 0 w (Fr.refl _ _) (fun _ => rfl)
  have H0 := hid h0; have HF0 := hid hF0
  clear hz hx hy hxb hyb h0 hF0
  generalize hW0 : w.setCells gz 0 (zeros (xs.length + ys.length)) = w0 at *
  clear hW0
  go_enter Tryz.func254, Tryz.ntmps254
  go_wp2_with (simp only [hcl])
  go_loopw [17] (fun i wr => ∃ k : Nat, k ≤ ys.length ∧ i = .int .i64 k ∧ Hid (MulAt wr gz csz.size xs.length ys.length (nval xs) ys k) ∧ Hid (Fr (fun i => i = gz) w wr)) (fun i _ => ys.length - (intOf i).toNat)
  case atStart => exact ⟨0, Nat.zero_le _, rfl, H0, HF0⟩
  case round =>
    obtain ⟨k, hk, rfl, hM, hF⟩ := hrel
    by_cases hlt : k < ys.length
    · obtain ⟨y, hyk⟩ : ∃ y, ys[k]? = some y := ⟨ys[k], List.getElem?_eq_getElem hlt⟩
      have hyb : y < WB := HYB.out y (List.mem_of_getElem? hyk)
      have hcy : wr.cell? ⟨gy, k, none⟩ = some (.int .u64 (y : Int)) := hF.out.cell' (HY.out k y hyk) hgy
      obtain ⟨A, L, m1, m2, m3, m4, m5, m6, m7⟩ := hM.out
      by_cases hy0 : y = 0
      · subst hy0
        have hnext : MulAt wr gz csz.size xs.length ys.length (nval xs) ys (k + 1) := by
          refine ⟨A, L, m1, m2, m3, m4, m5, ?_, fun j h1 h2 => m7 j (by omega) h2⟩
          rw [nval_take_succ ys k 0 hyk]
          simp only [Nat.mul_zero, Nat.add_zero]
          rw [← m6, show xs.length + (k + 1) = xs.length + k + 1 by omega, List.take_add_one, m7 (xs.length + k) (Nat.le_refl _) (by omega), nval_append]
          simp [nval]
        have HN := hid hnext
        clear hnext m1 m2 m3 m4 m5 m6 m7 hM hyk
        go_wp2_with fail
        go_roundw
        case rel => exact ⟨k + 1, by omega, by go_num, HN, hF⟩
        case measure => simp [intOf]; omega
      · have yb : ((y : Int) != 0) = true := by simpa using hy0
        have hstep := mul_step rfl rfl m3 m4 HXB.out hyb m6 m7 hlt hyk
        have hmid : ((L.drop k).take xs.length).length = xs.length := by rw [List.length_take, List.length_drop]; omega
        have HC := addMulVVWW gz k (cz - k) (cz - k) gx cx A ((L.drop k).take xs.length) xs y wr.drew m1 (by omega) (fun j x hj => m5 _ _ (sub_get hj)) (fun j x hj => hF.out.cell' (HX.out j x hj) hgx) hgx (fun u hu => m4 u (List.mem_of_mem_drop (List.mem_of_mem_take hu))) HXB.out hyb hmid (by omega)
        rw [hmid] at HC
        have hsz : (putV A k (u64s (amZ ((L.drop k).take xs.length) xs y 0))).size = csz.size := by rw [putV_size]; exact m2
        have hT0 : (amZ ((L.drop k).take xs.length) xs y 0).length = xs.length := by rw [amZ_length _ _ _ _ hmid]; exact hmid
        have hfin : ∀ w2 : World, w2.heap[gz]? = some (.cells (putV A k (u64s (amZ ((L.drop k).take xs.length) xs y 0))) 105 (0, 0)) → Fr (fun i => i = gz) wr.drew w2 →
            (∃ v, w2.cell? ⟨gz, xs.length + k, none⟩ = some v) ∧ w2.frozen? ⟨gz, xs.length + k, none⟩ = false ∧
            MulAt (w2.setCell ⟨gz, xs.length + k, none⟩ (.int .u64 (amC ((L.drop k).take xs.length) xs y 0 : Int))) gz csz.size xs.length ys.length (nval xs) ys (k + 1) ∧
            Fr (fun i => i = gz) w (w2.setCell ⟨gz, xs.length + k, none⟩ (.int .u64 (amC ((L.drop k).take xs.length) xs y 0 : Int))) := by
          intro w2 hg2 hF2
          refine ⟨?_, blk_frozen hg2 _, ?_, Fr.setCell (S := fun i => i = gz) (p := ⟨gz, xs.length + k, none⟩) (hF.out.drew.trans hF2 (fun _ _ h => h)) (fun _ => rfl) _⟩
          · rw [blk_cell hg2]; exact ⟨_, Array.getElem?_eq_getElem (by omega)⟩
          · obtain ⟨s1, s2, s3, s4⟩ := hstep
            have hset := blk_set hg2 (xs.length + k) (.int .u64 (amC ((L.drop k).take xs.length) xs y 0 : Int))
            have hput : (putV A k (u64s (amZ ((L.drop k).take xs.length) xs y 0))).setIfInBounds (xs.length + k) (.int .u64 (amC ((L.drop k).take xs.length) xs y 0 : Int)) = putV A k (u64s (amZ ((L.drop k).take xs.length) xs y 0 ++ [amC ((L.drop k).take xs.length) xs y 0])) := by
              rw [u64s_append, show u64s [amC ((L.drop k).take xs.length) xs y 0] = [.int .u64 (amC ((L.drop k).take xs.length) xs y 0 : Int)] from rfl, putV_snoc, u64s_length, hT0, Nat.add_comm k]
            rw [hput] at hset
            exact ⟨_, _, hset, by rw [putV_size]; exact m2, s1, s2, mul_cells (by omega) m3 hlt (by rw [List.length_append, hT0]; rfl) m5, s3, s4⟩
        have HC := hid HC; have HFIN := hid hfin
        have e1 : IntKind.i64.wrap ((xs.length : Int) + (k : Int)) = (xs.length : Int) + (k : Int) := IntWalk.i64_in _ (by omega)
        have e2 : IntKind.i64.wrap ((k : Int) + (xs.length : Int)) = (k : Int) + (xs.length : Int) := IntWalk.i64_in _ (by omega)
        have e3 : (0 : Int) ≤ (xs.length : Int) + (k : Int) := by omega
        have e4 : (0 : Int) ≤ (k : Int) + (xs.length : Int) := by omega
        have e5 : ((xs.length : Int) + (k : Int)).toNat = xs.length + k := by omega
        have e6 : ((k : Int) + (xs.length : Int)).toNat = k + xs.length := by omega
        have e7 : (xs.length : Int) + (k : Int) < ((xs.length + ys.length : Nat) : Int) := by omega
        have e8 : (k : Int) + (xs.length : Int) ≤ (cz : Int) := by omega
        have e9 : ¬ (cz = k) := by omega
        clear hfin hT0 hsz hmid hstep m1 m2 m3 m4 m5 m6 m7 hM hyk
        generalize amC ((L.drop k).take xs.length) xs y 0 = c at *
        go_wp2_with fail
        go_region_with (first | (go_at_call 293; refine HC.out.mono ?_; rintro e w2 ⟨rfl, hg2, hF2⟩; obtain ⟨⟨v2, k1⟩, f1, hM2, hF2'⟩ := HFIN.out w2 hg2 hF2; have HM2 := hid hM2; have HF2 := hid hF2'; clear hg2 hF2 hM2 hF2'))
        go_wp2_with fail
        go_roundw
        case rel => exact ⟨k + 1, by omega, by go_num, HM2, HF2⟩
        case measure => simp [intOf]; omega
    · obtain rfl : k = ys.length := by omega
      go_wp2_with fail
      go_end0
      exact ⟨rfl, hM.out, hF.out⟩
end Go.Proofs.YteokhhepnoelhaaGreatDoor
