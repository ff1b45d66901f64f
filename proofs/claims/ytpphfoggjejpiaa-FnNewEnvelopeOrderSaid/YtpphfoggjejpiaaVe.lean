/-
  FnNewEnvelopeOrder: neither the order of finite places nor how often each comes matters for their envelope: the law answers true for every input. Conditions: none.
-/
import Derived.Test.YtpphfoggjejpiaaVd
namespace Go.Proofs.Ytpphfoggjejpiaa.fnNewEnvelopeOrder
open Go.ChangeShapes Go.WideShapes Go.ChangeAt Go.RowKit

theorem readable : ∀ t ∈ Try.f7.params.toList, Try.prog.readableRec t = true ∧ t < Try.prog.types.size := by
  intro t ht
  have e : Try.f7.params.toList = [26, 49] := rfl
  rw [e] at ht
  simp only [List.mem_cons, List.not_mem_nil, or_false] at ht
  rcases ht with rfl | rfl <;> exact ⟨by kernel_rfl, of_decide_eq_true (by kernel_rfl)⟩

set_option maxRecDepth 100000 in
theorem lifted (os : Os) (started : os.Started) (H : Type) (enc : TypeId × Value → H) :
    ReturnsInHanded {} Try.checked os 7 .any (Rows.fnNewEnvelopeOrderSpec.pre6 enc Try.prog Try.f7 Rows.fnNewEnvelopeOrderRow.domain false) (Rows.fnNewEnvelopeOrderSpec.post enc Try.prog Try.f7 false true false false) := by
  refine returnsInHanded_of_change (C := Try.checked) Try.own started (by kernel_rfl) Try.func7
    (ChangeSpec.witness6 (enc := enc) (C := Try.checked) false ⟨#[], #[.slice none 0 0, .slice none 0 0], []⟩ 8 (by kernel_rfl) (by kernel_rfl) (by kernel_rfl) (by kernel_rfl)) ?_
  intro W base args ds gs before hval0 hW _ hsz
  have hval : ∀ (j : Nat) t v, Try.f7.params[j]? = some t → args[j]? = some v → Value.okWide Try.prog W .any base t v := hval0
  have hW' := hW
  obtain ⟨p, q, hA0, hV, rfl, _, _⟩ := hW
  have hA : DataW.TrodAll enc Try.prog W 0 (fun _ => true) true Try.f7.params.toList args.toList ds p := hA0
  rw [Try.params7] at hA hval
  obtain ⟨v0, v1, d0, d1, p0, p1, rfl, rfl, rfl, h0, h1⟩ := trodAll_two hA
  obtain ⟨rfl, rfl⟩ := trodVars_none hV
  obtain ⟨ps, hps, hwf, hml⟩ := open_pts (hval 0 26 v0 rfl rfl) h0
  obtain ⟨zs, hzs, _⟩ := open_is (hval 1 49 v1 rfl rfl) h1
  refine (order_true v0 v1 ps zs W hps hzs hwf hml).mono fun e W' ⟨he, hb⟩ => ?_
  subst he
  exact ⟨_, rfl, law_post rfl rfl rfl readable hW' hb⟩

theorem holds : Rows.FnNewEnvelopeOrderSaid :=
  OpenClaim.holds_of_wide 7 Try.f7 rfl rfl rfl rfl rfl rfl rfl ⟨rfl, rfl, rfl, rfl, rfl⟩ rfl rfl rfl rfl rfl (by kernel_rfl) Try.func7 (by kernel_rfl)
    (of_decide_eq_true (by kernel_rfl)) (by unfold Func.isWrapper; rw [if_neg (of_decide_eq_false (by kernel_rfl))]; exact ⟨rfl, rfl⟩)
    (fun os started H enc _ => lifted os started H enc)

#print axioms holds
end Go.Proofs.Ytpphfoggjejpiaa.fnNewEnvelopeOrder
