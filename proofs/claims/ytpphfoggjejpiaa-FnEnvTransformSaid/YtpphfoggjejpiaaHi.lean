/-
  FnEnvTransform: a map along the axes takes an envelope with whole ends to that of its mapped corners: the law answers true for every input. Conditions: none.
-/
import Derived.Test.YtpphfoggjejpiaaHh
namespace Go.Proofs.Ytpphfoggjejpiaa.fnEnvTransform
open Go.ChangeShapes Go.WideShapes Go.ChangeAt Go.RowKit

theorem readable : ∀ t ∈ Try.f9.params.toList, Try.prog.readableRec t = true ∧ t < Try.prog.types.size := by
  intro t ht
  have e : Try.f9.params.toList = [41, 63] := rfl
  rw [e] at ht
  simp only [List.mem_cons, List.not_mem_nil, or_false] at ht
  rcases ht with rfl | rfl <;> exact ⟨by kernel_rfl, of_decide_eq_true (by kernel_rfl)⟩

set_option maxRecDepth 100000 in
theorem lifted (os : Os) (started : os.Started) (H : Type) (enc : TypeId × Value → H) :
    ReturnsInHanded {} Try.checked os 9 .any (Rows.fnEnvTransformSpec.pre6 enc Try.prog Try.f9 Rows.fnEnvTransformRow.domain false) (Rows.fnEnvTransformSpec.post enc Try.prog Try.f9 false true false false) := by
  refine returnsInHanded_of_change (C := Try.checked) Try.own started (by kernel_rfl) Try.func9
    (ChangeSpec.witness6 (enc := enc) (C := Try.checked) false ⟨#[], #[.agg #[.bool false, .float .f64 0, .float .f64 0, .float .f64 0, .float .f64 0], .agg #[.float .f64 0, .float .f64 0, .float .f64 0, .float .f64 0, .float .f64 0, .float .f64 0]], []⟩ 8 (by kernel_rfl) (by kernel_rfl) (by kernel_rfl) (by kernel_rfl)) ?_
  intro W base args ds gs before hval0 hW _ hsz
  have hval : ∀ (j : Nat) t v, Try.f9.params[j]? = some t → args[j]? = some v → Value.okWide Try.prog W .any base t v := hval0
  have hW' := hW
  obtain ⟨p, q, hA0, hV, rfl, _, _⟩ := hW
  have hA : DataW.TrodAll enc Try.prog W 0 (fun _ => true) true Try.f9.params.toList args.toList ds p := hA0
  rw [Try.params9] at hA hval
  obtain ⟨v0, v1, d0, d1, p0, p1, rfl, rfl, rfl, h0, h1⟩ := trodAll_two hA
  obtain ⟨rfl, rfl⟩ := trodVars_none hV
  obtain ⟨e, rfl, hwf⟩ := open_env (hval 0 41 v0 rfl rfl) h0
  obtain ⟨a, b, c, d, f, g, rfl⟩ := open_map (hval 1 63 v1 rfl rfl) h1
  refine (et_true e a b c d f g W).mono fun e W' ⟨he, hb⟩ => ?_
  subst he
  exact ⟨_, rfl, law_post rfl rfl rfl readable hW' hb⟩

theorem holds : Rows.FnEnvTransformSaid :=
  OpenClaim.holds_of_wide 9 Try.f9 rfl rfl rfl rfl rfl rfl rfl ⟨rfl, rfl, rfl, rfl, rfl⟩ rfl rfl rfl rfl rfl (by kernel_rfl) Try.func9 (by kernel_rfl)
    (of_decide_eq_true (by kernel_rfl)) (by unfold Func.isWrapper; rw [if_neg (of_decide_eq_false (by kernel_rfl))]; exact ⟨rfl, rfl⟩)
    (fun os started H enc _ => lifted os started H enc)

#print axioms holds
end Go.Proofs.Ytpphfoggjejpiaa.fnEnvTransform
