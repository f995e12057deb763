/-
  divBasic's round behind the guess: the guess was right.
-/
import Derived.Test.YteokhhepnoelhaaGreatDoorXba
set_option linter.unusedVariables false
set_option linter.unusedSimpArgs false
namespace Go.Proofs.YteokhhepnoelhaaGreatDoor
open Go.RowKit
set_option maxRecDepth 1000000 in
set_option maxHeartbeats 8000000 in
theorem rest_right (gq cq gu cu gv cv S gt cap n m k zq zu qh ujn v1 : Nat) (vs L L0 Q : List Nat) (csu' csq' cst' : Array Value) (w wc : World) (DF : List Deferred) (c4 c5 c6 c7 c12 c16 c17 c18 c19 c20 c21 c22 c23 c24 c25 c26 c27 c28 c29 c30 c31 c32 c33 c34 c35 c36 c37 c38 c39 c40 c41 c42 c43 c44 c45 c46 c47 c48 c49 c50 c51 c52 c53 c54 c55 c56 c57 c58 c59 c60 c61 c62 c63 c64 c65 c66 c67 c68 c69 c70 c71 c72 c73 c74 c75 c76 c77 c78 c79 c80 c81 c82 c83 c84 c85 c86 c87 c88 c89 c90 c91 c92 c93 c94 c95 c96 c97 c98 c99 c100 c101 c102 c103 c104 c105 c106 c107 c108 c109 c110 c111 c112 c113 c114 c115 c116 c117 c118 c119 c120 c121 c122 c123 c124 c125 c126 c127 c128 c129 c130 c131 c132 c133 c134 c135 c136 c137 c138 c139 c140 c141 c142 c143 c144 c145 c146 c147 c148 c149 c150 c151 c152 c153 c154 c155 c156 c157 c158 c159 c160 c161 c162 c163 c164 c165 c166 c167 c168 c169 c170 c171 c172 c173 c174 c175 c176 c177 c178 c179 c180 c181 c182 c183 c184 c185 c186 c187 c188 c189 c190 c191 c192 c193 c194 c195 c196 c197 c198 c199 c200 : Value) (Q0 : Exit → Act → World → Prop)
 (hn2 : 2 ≤ n) (hn4 : n ≤ 4) (hm : 1 ≤ m) (hm' : m ≤ 100) (hus : m + n ≤ zu) (hcu : m + n ≤ cu) (hqs : m ≤ zq) (h1 : gq ≠ gu) (h2 : gv ≠ gu) (h3 : gv ≠ gq) (h4 : S ≠ gu) (h5 : S ≠ gq) (h6 : gv ≠ S) (r1 : n + 1 ≤ cap) (lgu : gu < w.heap.size) (lgq : gq < w.heap.size) (hSl : S < w.heap.size) (hgt : w.heap.size ≤ gt)
 (hv : ∀ (j x : Nat), vs[j]? = some x → w.cell? ⟨gv, j, none⟩ = some (.int .u64 (x : Int))) (hlen : vs.length = n) (hbv : ∀ x ∈ vs, x < WB)
 (hk1 : k + 1 ≤ m) (hqb : qh < WB) (hgood : GoodQ (nval ((L.drop k).take (n + 1))) (nval vs) qh) (hQl : Q.length = m - (k + 1)) (hR : nval (L.drop (k + 1)) < nval vs) (hV0 : nval L0 = nval L + nval vs * WB ^ (k + 1) * nval Q)
 (d1 : wc.heap[gu]? = some (.cells csu' 105 (0, 0))) (d2 : csu'.size = zu) (d3 : wc.heap[gq]? = some (.cells csq' 105 (0, 0))) (d4 : csq'.size = zq) (d5 : wc.heap[gt]? = some (.cells cst' 105 (0, 0))) (d6 : n + 1 ≤ cst'.size) (d7 : RowIs csu' L) (d8 : L.length = m + n) (d9 : ∀ x ∈ L, x < WB)
 (d10 : ∀ (i x : Nat), Q[i]? = some x → csq'[k + 1 + i]? = some (.int .u64 (x : Int))) (d11 : ∀ x ∈ Q, x < WB) (b1 : StkS w wc S gt) (b2' : Fr (fun i => i = gu ∨ i = gq ∨ i = S) w wc)
 (hcb0 : sbC ((L.drop k).take (n + 1)) (mulAddZ vs qh 0 ++ [mulAddC vs qh 0]) 0 = 0)
 (hQ0 : ∀ (ul : Nat) (w' : World) (d15 d21 d22 d23 d105 d106 d107 d108 d109 d110 d111 d112 d113 d114 d115 d116 d117 d118 d119 d120 d121 d122 d123 d124 d125 d126 d127 d128 d129 d130 d131 d132 d133 d134 d135 d136 d137 d138 d139 d140 d141 d142 d143 d144 d145 d146 d147 d148 d149 d150 d151 d152 d153 d154 d155 d156 d157 d158 d159 d160 d161 d162 d163 d164 d165 d166 d167 d168 d169 d170 d171 d172 d173 d174 d175 d176 d177 d178 d179 d180 d181 d182 d183 d184 d185 d186 d187 d188 d189 d190 d191 d192 d193 d194 d195 d196 d197 d198 d199 d200 : Value), Hid (DivAt w w' gq gu gt S zq zu n m (nval vs) L0 k ul) → Q0 .normal ⟨#[.slice (some ⟨gq, 0, none⟩) m cq, .pointer (some ⟨S, 0, none⟩), .slice (some ⟨gu, 0, none⟩) (m + n) cu, .slice (some ⟨gv, 0, none⟩) n cv, c4, c5, c6, c7, .int .i64 (n : Int), .int .i64 (m : Int), .slice (some ⟨gt, 0, none⟩) (n + 1) cap, .int .u64 (v1 : Int), c12, .int .u64 (ul : Int), .int .i64 (k : Int), d15, c16, c17, c18, c19, c20, d21, d22, d23, c24, c25, c26, c27, c28, c29, c30, c31, c32, c33, c34, c35, c36, c37, c38, c39, c40, c41, c42, c43, c44, c45, c46, c47, c48, c49, c50, c51, c52, c53, c54, c55, c56, c57, c58, c59, c60, c61, c62, c63, c64, c65, c66, c67, c68, c69, c70, c71, c72, c73, c74, c75, c76, c77, c78, c79, c80, c81, c82, c83, c84, c85, c86, c87, c88, c89, c90, c91, c92, c93, c94, c95, c96, c97, c98, c99, c100, c101, c102, c103, c104, d105, d106, d107, d108, d109, d110, d111, d112, d113, d114, d115, d116, d117, d118, d119, d120, d121, d122, d123, d124, d125, d126, d127, d128, d129, d130, d131, d132, d133, d134, d135, d136, d137, d138, d139, d140, d141, d142, d143, d144, d145, d146, d147, d148, d149, d150, d151, d152, d153, d154, d155, d156, d157, d158, d159, d160, d161, d162, d163, d164, d165, d166, d167, d168, d169, d170, d171, d172, d173, d174, d175, d176, d177, d178, d179, d180, d181, d182, d183, d184, d185, d186, d187, d188, d189, d190, d191, d192, d193, d194, d195, d196, d197, d198, d199, d200], DF⟩ w') :
 Code.wp Tryz.prog rest247 Q0 ⟨#[.slice (some ⟨gq, 0, none⟩) m cq, .pointer (some ⟨S, 0, none⟩), .slice (some ⟨gu, 0, none⟩) (m + n) cu, .slice (some ⟨gv, 0, none⟩) n cv, c4, c5, c6, c7, .int .i64 (n : Int), .int .i64 (m : Int), .slice (some ⟨gt, 0, none⟩) (n + 1) cap, .int .u64 (v1 : Int), c12, .int .u64 (ujn : Int), .int .i64 (k : Int), .int .u64 (qh : Int), c16, c17, c18, c19, c20, c21, c22, c23, c24, c25, c26, c27, c28, c29, c30, c31, c32, c33, c34, c35, c36, c37, c38, c39, c40, c41, c42, c43, c44, c45, c46, c47, c48, c49, c50, c51, c52, c53, c54, c55, c56, c57, c58, c59, c60, c61, c62, c63, c64, c65, c66, c67, c68, c69, c70, c71, c72, c73, c74, c75, c76, c77, c78, c79, c80, c81, c82, c83, c84, c85, c86, c87, c88, c89, c90, c91, c92, c93, c94, c95, c96, c97, c98, c99, c100, c101, c102, c103, c104, c105, c106, c107, c108, c109, c110, c111, c112, c113, c114, c115, c116, c117, c118, c119, c120, c121, c122, c123, c124, c125, c126, c127, c128, c129, c130, c131, c132, c133, c134, c135, c136, c137, c138, c139, c140, c141, c142, c143, c144, c145, c146, c147, c148, c149, c150, c151, c152, c153, c154, c155, c156, c157, c158, c159, c160, c161, c162, c163, c164, c165, c166, c167, c168, c169, c170, c171, c172, c173, c174, c175, c176, c177, c178, c179, c180, c181, c182, c183, c184, c185, c186, c187, c188, c189, c190, c191, c192, c193, c194, c195, c196, c197, c198, c199, c200], DF⟩ wc := by
 have HQ0 := hid hQ0;clear hQ0;have HV := hid hv; have HBV := hid hbv; have HSl := hid hSl; have HVL := hid hlen;clear hv hbv;obtain ⟨a1, ha1⟩ : ∃ a, k + n - 1 = a := ⟨_, rfl⟩
 have hK0 : ¬ k + 1 = 0 := by omega
 have w1 : IntKind.i64.wrap ((k : Int) + (n : Int)) = (k : Int) + (n : Int) := IntWalk.i64_in _ (by omega);have w2 : IntKind.i64.wrap ((k : Int) + (n : Int) - 1) = (a1 : Int) := by rw [IntWalk.i64_in _ (by omega)]; omega
 have w5 : (a1 : Int) < (m : Int) + (n : Int) := by omega
 have w8 : (k : Int) + (n : Int) - 1 = (a1 : Int) := by omega
 have hk0 : (0 : Int) ≤ (k : Int) + (n : Int) := by omega
 have HM := mulAddVWW gt 0 cap gv 0 cv cst' vs qh 0 _ d5 (by omega) (fun j x hj => by rw [Nat.zero_add]; exact b2'.cell' (HV.out j x hj) (fun h => h.elim h2 (fun h => h.elim h3 h6))) (fun _ => rfl) HBV.out hqb WB_pos (by omega);rw [hlen, show ((0 : Nat) : Int) = 0 from rfl] at HM;have hZl : (mulAddZ vs qh 0).length = n := by rw [mulAddZ_length, hlen]
 have hCb := mulAddC_lt vs qh hqb 0 WB_pos HBV.out;have hQv : nval (mulAddZ vs qh 0 ++ [mulAddC vs qh 0]) = nval vs * qh := by rw [nval_mulAdd, Nat.add_zero]
 have hQb : ∀ x ∈ mulAddZ vs qh 0 ++ [mulAddC vs qh 0], x < WB := fun x hx => by
  rcases List.mem_append.1 hx with h | h;· exact mulAddZ_lt _ _ _ _ h
  · rw [List.mem_singleton] at h; subst h; exact hCb
 have hput : (putV cst' 0 (u64s (mulAddZ vs qh 0))).setIfInBounds n (.int .u64 (mulAddC vs qh 0 : Int)) = putV cst' 0 (u64s (mulAddZ vs qh 0 ++ [mulAddC vs qh 0])) := by
  rw [u64s_append, show u64s [mulAddC vs qh 0] = [.int .u64 (mulAddC vs qh 0 : Int)] from rfl, putV_snoc, u64s_length, hZl, Nat.zero_add]
 have hrow : RowIs (putV cst' 0 (u64s (mulAddZ vs qh 0 ++ [mulAddC vs qh 0]))) (mulAddZ vs qh 0 ++ [mulAddC vs qh 0]) := fun i x hi => by
  have hl := (List.getElem?_eq_some_iff.1 hi).1;rw [List.length_append, hZl, List.length_singleton] at hl;have := putV_get_in (u64s (mulAddZ vs qh 0 ++ [mulAddC vs qh 0])) cst' 0 i (by rw [u64s_length, List.length_append, hZl, List.length_singleton]; omega) (by rw [u64s_length, List.length_append, hZl, List.length_singleton]; omega);rw [Nat.zero_add, u64s_get, hi] at this;exact this
 have hlast : (mulAddZ vs qh 0 ++ [mulAddC vs qh 0])[n]? = some (mulAddC vs qh 0) := by
  rw [List.getElem?_append_right (by omega), hZl, Nat.sub_self]; rfl
 have hqz : qh = 0 → mulAddZ vs qh 0 ++ [mulAddC vs qh 0] = List.replicate (n + 1) 0 := fun h => by
  refine nval_inj _ _ (by rw [List.length_append, hZl, List.length_replicate]; rfl) hQb (fun y hy => by rw [List.eq_of_mem_replicate hy]; exact WB_pos) ?_;rw [hQv, nval_zeros, h, Nat.mul_zero]
 have hqvl : (mulAddZ vs qh 0 ++ [mulAddC vs qh 0]).length = n + 1 := by rw [List.length_append, hZl]; rfl
 have HM := hid HM; have HQV := hid hQv; have HQB := hid hQb; have HROW := hid hrow; have HLAST := hid hlast; have HQZ := hid hqz; have HQVL := hid hqvl;have HPUT := hid hput;have D1 := hid d1; have D3 := hid d3; have D5 := hid d5; have D7 := hid d7; have D8 := hid d8; have D9 := hid d9; have D10 := hid d10; have D11 := hid d11; have B1 := hid b1; have B2 := hid b2';clear hQv hQb hrow hlast hqz hput d1 d3 d5 d7 d8 d9 d10 d11 b1 b2' hZl hqvl;generalize mulAddZ vs qh 0 = ZZ at *
 generalize mulAddC vs qh 0 = cc at *
 have hVp : 0 < nval vs := by omega
 have hVn : nval vs ≤ WB ^ n := by have := nval_lt vs HBV.out; rw [hlen] at this; omega
 obtain ⟨seg, hseg⟩ : ∃ seg, (L.drop k).take (n + 1) = seg := ⟨_, rfl⟩
 have hsegl : seg.length = n + 1 := by rw [← hseg, List.length_take, List.length_drop, D8.out]; omega
 have hsegb : ∀ x ∈ seg, x < WB := fun x hx => D9.out x (by rw [← hseg] at hx; exact List.mem_of_mem_drop (List.mem_of_mem_take hx))
 rw [hseg] at hgood hcb0;have hcb := hcb0;clear hcb0;conv => arg 2; whnf
 have c1 : ((m : Int) + (n : Int) < (k : Int) + ((n : Int) + 1)) = False := eq_false (by omega);have c2 : IntKind.i64.wrap ((k : Int) + ((n : Int) + 1)) = (k : Int) + ((n : Int) + 1) := IntWalk.i64_in _ (by omega);go_upto_if 148 with (first | (go_at_call 217; refine HM.out.mono ?_; rintro e w3 ⟨rfl, m1, m2⟩; have hs4 := blk_set m1 n (.int .u64 (cc : Int)); have kn : ∃ v, (putV cst' 0 (u64s ZZ))[n]? = some v := ⟨_, Array.getElem?_eq_getElem (by rw [putV_size]; omega)⟩; obtain ⟨vn, hvn⟩ := kn; have kn : w3.cell? ⟨gt, n, none⟩ = some vn := (blk_cell m1 n).trans hvn; have fn := blk_frozen m1 n; rw [HPUT.out] at hs4; have HS4 := hid hs4; have HF4 := hid (Fr.setCell (S := fun i => i = gt) (p := ⟨gt, n, none⟩) m2 (fun _ => rfl) (.int .u64 (cc : Int))); clear hs4 m1 m2 hvn))
 clear kn fn;generalize w3.setCell ⟨gt, n, none⟩ (.int .u64 (cc : Int)) = W4 at *
 have E1 := HF4.out.blk D1.out (by show gu ≠ gt; omega);have E3 := HF4.out.blk D3.out (by show gq ≠ gt; omega);have hFr4 : Fr (fun i => i = gu ∨ i = gq ∨ i = S) w W4 := B2.out.trans HF4.out (fun i hi h => by have h : i = gt := h; omega);have hB4 := B1.out.fr HF4.out (by show S ≠ gt; have := HSl.out; omega) (fun T _ h h2 => h h2);have HSUB := subVV_any gu k (cu - k) gu k (cu - k) gt 0 cap csu' seg (ZZ ++ [cc]) W4.drew E1 (by rw [hsegl]; omega) (by rw [hsegl, HQVL.out])
  (fun j x hj => by
   have : W4.cell? ⟨gu, k + j, none⟩ = some (.int .u64 (x : Int)) := by
    rw [blk_cell E1];rw [← hseg, List.getElem?_take] at hj;split at hj
    · rw [List.getElem?_drop] at hj; exact D7.out (k + j) x hj
    · cases hj
   exact this) (fun _ => rfl)
  (fun j y hj => by
   have : W4.cell? ⟨gt, 0 + j, none⟩ = some (.int .u64 (y : Int)) := by
    rw [Nat.zero_add, blk_cell HS4.out];exact HROW.out j y hj
   exact this) (by omega) hsegb HQB.out (by omega)
 rw [hsegl] at HSUB;have hS1l : (sbZ seg (ZZ ++ [cc]) 0).length = n + 1 := by rw [sbZ_length _ _ _ (by rw [hsegl, HQVL.out]), hsegl]
 have hS1b := sbZ_lt seg (ZZ ++ [cc]) 0;have hright := seg_right (U := nval seg) (V := nval vs) (qh := qh) hVp hsegl HQVL.out hsegb HQB.out rfl HQV.out hgood.1 hgood.2.1;have hwrong := seg_wrong (U := nval seg) (V := nval vs) (qh := qh) hVp hsegl HQVL.out hlen hsegb HQB.out HBV.out rfl HQV.out rfl hgood.1 hgood.2.1;have hrow1 : RowIs (putV csu' k (u64s (sbZ seg (ZZ ++ [cc]) 0))) (L.take k ++ sbZ seg (ZZ ++ [cc]) 0 ++ L.drop (k + (n + 1))) := by
  have := D7.out.put (S := sbZ seg (ZZ ++ [cc]) 0) k (by rw [hS1l, D8.out]; omega) (by rw [D8.out]; omega);rw [hS1l] at this;exact this
 have hLl : ∀ S2 : List Nat, S2.length = n + 1 → (L.take k ++ S2 ++ L.drop (k + (n + 1))).length = m + n := fun S2 h => by
  rw [List.length_append, List.length_append, List.length_take, List.length_drop, h, D8.out]; omega
 have hLb : ∀ S2 : List Nat, (∀ x ∈ S2, x < WB) → ∀ x ∈ L.take k ++ S2 ++ L.drop (k + (n + 1)), x < WB := fun S2 h x hx => by
  rcases List.mem_append.1 hx with hx | hx
  · rcases List.mem_append.1 hx with hx | hx
    · exact D9.out x (List.mem_of_mem_take hx)
    · exact h x hx
  · exact D9.out x (List.mem_of_mem_drop hx)
 have hstep : ∀ S2 : List Nat, S2.length = n + 1 → nval S2 = nval seg % nval vs → nval ((L.take k ++ S2 ++ L.drop (k + (n + 1))).drop k) < nval vs ∧ nval L0 = nval (L.take k ++ S2 ++ L.drop (k + (n + 1))) + nval vs * WB ^ k * (nval seg / nval vs + WB * nval Q) := fun S2 h2 h3 =>
  (div_step (L := L) (L0 := L0) (S := S2) (q := nval seg / nval vs) (Q := nval Q) (N := m + n) (by omega) D8.out h2 D9.out hVn hR (by rw [hseg]; exact h3) (by rw [hseg]) hV0).2
 have HSUB := hid HSUB; have HROW1 := hid hrow1; have HLl := hid hLl; have HLb := hid hLb; have HSTEP := hid hstep; have HR := hid hright; have HW := hid hwrong; have HS1l := hid hS1l; have HS1b := hid hS1b;have E1 := hid E1; have E3 := hid E3; have HFr4 := hid hFr4; have HB4 := hid hB4; have HQl := hid hQl; have HGD := hid hgood; have HSB := hid hsegb; have HSL := hid hsegl;clear hFr4 hB4 hrow1 hLl hLb hstep hright hwrong hS1l hS1b hQl hgood hsegb hsegl hR hV0 hVp hVn hseg HM HQZ;have e5 : ((k : Int) + ((n : Int) + 1)).toNat = k + (n + 1) := by omega
 have e5' : ((n : Int) + 1).toNat = n + 1 := by omega
 have e6 : (k : Int) + ((n : Int) + 1) ≤ (cu : Int) := by omega
 have e6' : (0 : Int) ≤ (k : Int) + ((n : Int) + 1) := by omega
 have e7 : ¬ (cu = k) := by omega
 have e8 : (n : Int) + 1 ≤ (cap : Int) := by omega
 have e14 : (0 : Int) ≤ (n : Int) + 1 := by omega
 have e15 : n + 1 ≤ cap := by omega
 have e9 : ((k : Int) + (n : Int)).toNat = k + n := by omega
 have e10 : (k : Int) + (n : Int) ≤ (cu : Int) := by omega
 have e11 : (k : Int) + (n : Int) < (m : Int) + (n : Int) := by omega
 have e12 : (n : Int) < (n : Int) + 1 := by omega
 have e13 : (k : Int) < (m : Int) := by omega
 have f1 : ((k : Int) == (m : Int)) = false := beq_eq_false_iff_ne.2 (by omega);obtain ⟨vq, hvq⟩ : ∃ v, csq'[k]? = some v := ⟨_, Array.getElem?_eq_getElem (by omega)⟩
 have HVQ := hid hvq;clear hvq;obtain ⟨hq1, hq2⟩ := HR.out hcb;rw [hcb, show ((0 : Nat) : Int) = 0 from rfl] at HSUB;have f2 : ((0 : Int) != 0) = false := by simp
 obtain ⟨ul, hul⟩ : ∃ u, (L.take k ++ sbZ seg (ZZ ++ [cc]) 0 ++ L.drop (k + (n + 1)))[k + n - 1]? = some u := ⟨_, List.getElem?_eq_getElem (by rw [HLl.out _ HS1l.out]; omega)⟩
 obtain ⟨hs1, hs2⟩ := HSTEP.out _ HS1l.out hq2;rw [← hq1] at hs2;have HUL' := hid hul; have HN1 := hid hs1; have HN2 := hid hs2;clear hul hs1 hs2 hq1 hq2 hcb;go_still_tail 15, (by kernel_rfl)
 go_wp2_with (first | (go_at_call 205; refine HSUB.out.mono ?_; rintro e w5 ⟨rfl, s1, s2⟩; have kl : w5.cell? ⟨gu, a1, none⟩ = some (.int .u64 (ul : Int)) := (blk_cell s1 a1).trans (HROW1.out a1 ul (by rw [← ha1]; exact HUL'.out)); have q3 := s2.blk E3.out h1; have kq : w5.cell? ⟨gq, k, none⟩ = some vq := (blk_cell q3 k).trans HVQ.out; have fq := blk_frozen q3 k; have S1 := hid s1; have S2 := hid s2; have Q3 := hid q3; clear s1 s2 q3));all_goals
  have HNX : Hid (DivAt w (w5.setCell ⟨gq, k, none⟩ (.int .u64 (qh : Int))) gq gu gt S zq zu n m (nval vs) L0 k ul) := hid (by
   have hfq : Fr (fun i => i = gq) w5 (w5.setCell ⟨gq, k, none⟩ (.int .u64 (qh : Int))) := Fr.setCell (S := fun i => i = gq) (p := ⟨gq, k, none⟩) (Fr.refl _ _) (fun _ => rfl) _;have hB5 := HB4.out.drew.fr S2.out h4 (fun T h _ h2 => by have h2 : T = gu := h2; omega);refine ⟨⟨_, _, _, _, qh :: Q, hfq.blk S1.out (Ne.symm h1), by rw [putV_size]; exact d2, blk_set Q3.out k _, by rw [Array.size_setIfInBounds]; exact d4, hfq.blk (S2.out.blk HS4.out (by show gt ≠ gu; omega)) (by show gt ≠ gq; omega), by rw [putV_size]; exact d6, HROW1.out, HLl.out _ HS1l.out, HLb.out _ HS1b.out, quo_row (by omega) D10.out, (fun x h => ?_), .inr ⟨by omega, ?_, HUL'.out, HN1.out, HN2.out⟩⟩, hB5.fr hfq h5 (fun T h _ h2 => by have h2 : T = gq := h2; omega), (HFr4.out.drew.trans S2.out (fun i hi h => .inl h)).trans hfq (fun i hi h => .inr (.inl h))⟩
   · rcases List.mem_cons.1 h with rfl | h
     · exact hqb
     · exact D11.out x h
   · rw [List.length_cons, HQl.out]; omega)
  clear E1 E3 HFr4 HB4 S1 S2 HSUB HS4 HF4 Q3;go_wp2_with fail;apply HQ0.out;exact HNX
end Go.Proofs.YteokhhepnoelhaaGreatDoor
