/-
  The row of FnFormBack: the call, opened and shut.
-/
import Derived.Test.YteokhhepnoelhaaGreatDoorFormLaw
import Derived.Test.YteokhhepnoelhaaGreatDoorFrame
import Derived.Lay
import Derived.MakeChecks
set_option linter.unusedVariables false
set_option linter.unusedSimpArgs false
namespace Go.Proofs.YteokhhepnoelhaaGreatDoor
open Go.RowKit Go.ChangeShapes Go.WideShapes Go.ChangeAt

set_option maxRecDepth 100000 in
set_option maxHeartbeats 4000000 in
theorem formBack_lifted (os : Os) (started : os.Started) (H : Type) (enc : TypeId × Value → H) :
    ReturnsInHanded {} Tryz.checked os 7 .any (fun w args => (Rows.fnFormBackSpec.pre enc Tryz.prog Tryz.f7 [] false w args ∧ laidMetH Tryz.prog Rows.fnFormBackRow.laid w) ∧ sizedMet enc Tryz.prog Tryz.f7 (OpenSpec.ofChange Rows.fnFormBackSpec) false w args)
      (Rows.fnFormBackSpec.post enc Tryz.prog Tryz.f7 false true false false) := by
  refine returnsInHanded_of_change_and (C := Tryz.checked) (X := fun w _ => laidMetH Tryz.prog Rows.fnFormBackRow.laid w) (fun _ _ _ hh h => h.of_heap hh) Tryz.own started (by as_aux_lemma => kernel_rfl) Tryz.func7
    (ChangeSpec.witness_shaped (enc := enc) (C := Tryz.checked) (os := os) (X := fun w _ => laidMetH Tryz.prog Rows.fnFormBackRow.laid w) false (World.laidAll Tryz.prog os Rows.fnFormBackRow.laid) #[.int .u8 0, .bool false] 8 (World.laidAll_os _ _ _)
      (World.shaped_of_ZipB (by as_aux_lemma => kernel_rfl) (by as_aux_lemma => kernel_rfl)) (by as_aux_lemma => kernel_rfl) (by as_aux_lemma => kernel_rfl) (by as_aux_lemma => kernel_rfl)
      (by rw [MakeChecks.laidMetH_plain _ _ _ (by as_aux_lemma => kernel_rfl)]; exact laidMet_laidAll _ (by as_aux_lemma => kernel_rfl) (by as_aux_lemma => kernel_rfl))) ?_
  intro W base args ds gs before hval0 hW _ _ hL _
  have hval : ∀ (j : Nat) t v, Tryz.f7.params[j]? = some t → args[j]? = some v → Value.okWide Tryz.prog W .any base t v := hval0
  have hW' := hW
  obtain ⟨p, q, hA0, hV, rfl, _, _⟩ := hW
  have hA : DataW.TrodAll enc Tryz.prog W 0 (fun _ => true) true Tryz.f7.params.toList args.toList ds p := hA0
  rw [Tryz.params7] at hA hval
  obtain ⟨v0, v1, d0, d1, p0, p1, rfl, rfl, rfl, h0, h1⟩ := trodAll_two hA
  obtain ⟨x, rfl, rfl, rfl, wx⟩ := open_int Tryz.underlying5 (hval 0 5 v0 rfl rfl) h0
  obtain ⟨b, rfl, rfl, rfl⟩ := open_bool Tryz.underlying4 (hval 1 4 v1 rfl rfl) h1
  simp only [List.append_nil] at hW'
  have hx : 0 ≤ x ∧ x ≤ 255 := by simpa [Lit.wf, IntKind.min, IntKind.max, IntKind.signed, IntKind.bits] using wx
  rw [MakeChecks.laidMetH_plain _ _ _ (by as_aux_lemma => kernel_rfl)] at hL
  have hC : CtxAt W 0 0 100000 (-100000) 1967 ⟨#[]⟩ := ctx_of_reads (Lib.laidMet.reads hL (n := "loop.example/pub-g03241/pub/apd.BaseContext") (d := Rows.laid_loop_example_pub_g03241_pub_apd_BaseContext) (by simp [Rows.fnFormBackRow]))
  refine (formBack_law x b W hx.1 hx.2 _ hC).mono fun e W' ⟨he, hb⟩ => ?_
  subst he
  obtain ⟨g1, g2, g3, g4, g5, g6, g7, g8, rfl⟩ := trodVars_eight hV
  exact ⟨_, rfl, _, _, _, [], [], q, hW', trodAll_mk1 (shut_bool Tryz.underlying4 _), trodAll_mk2 (shut_int Tryz.underlying5 wx) (shut_bool Tryz.underlying4 b), hb.trodVars Tryz.laidOut (by as_aux_lemma => kernel_rfl) hV, hb.frame _, fun h => by cases h⟩

end Go.Proofs.YteokhhepnoelhaaGreatDoor
