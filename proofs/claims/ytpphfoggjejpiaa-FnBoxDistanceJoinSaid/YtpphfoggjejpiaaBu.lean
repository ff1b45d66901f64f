/-
  FnBoxDistanceJoin: a box is no farther from two boxes joined than from either, and meets the two joined if it meets one: the law answers true for every input. Conditions: none.
-/
import Derived.Test.YtpphfoggjejpiaaFr
import Derived.Test.YtpphfoggjejpiaaBv
namespace Go.Proofs.Ytpphfoggjejpiaa.fnBoxDistanceJoin
open Go.ChangeShapes Go.WideShapes Go.ChangeAt Go.RowKit

theorem readable : ∀ t ∈ Try.f5.params.toList, Try.prog.readableRec t = true ∧ t < Try.prog.types.size := by
  intro t ht
  have e : Try.f5.params.toList = [34, 34, 34] := rfl
  rw [e] at ht
  simp only [List.mem_cons, List.not_mem_nil, or_false] at ht
  rcases ht with rfl | rfl | rfl <;> exact ⟨by kernel_rfl, of_decide_eq_true (by kernel_rfl)⟩

set_option maxRecDepth 100000 in
theorem lifted (os : Os) (started : os.Started) (H : Type) (enc : TypeId × Value → H) :
    ReturnsInHanded {} Try.checked os 5 .any (Rows.fnBoxDistanceJoinSpec.pre6 enc Try.prog Try.f5 Rows.fnBoxDistanceJoinRow.domain false) (Rows.fnBoxDistanceJoinSpec.post enc Try.prog Try.f5 false true false false) := by
  refine returnsInHanded_of_change (C := Try.checked) Try.own started (by kernel_rfl) Try.func5
    (ChangeSpec.witness6 (enc := enc) (C := Try.checked) false ⟨#[], #[.agg #[.float .f64 0, .float .f64 0, .float .f64 0, .float .f64 0], .agg #[.float .f64 0, .float .f64 0, .float .f64 0, .float .f64 0], .agg #[.float .f64 0, .float .f64 0, .float .f64 0, .float .f64 0]], []⟩ 8 (by kernel_rfl) (by kernel_rfl) (by kernel_rfl) (by kernel_rfl)) ?_
  intro W base args ds gs before hval0 hW _ hsz
  have hval : ∀ (j : Nat) t v, Try.f5.params[j]? = some t → args[j]? = some v → Value.okWide Try.prog W .any base t v := hval0
  have hW' := hW
  obtain ⟨p, q, hA0, hV, rfl, _, _⟩ := hW
  have hA : DataW.TrodAll enc Try.prog W 0 (fun _ => true) true Try.f5.params.toList args.toList ds p := hA0
  rw [Try.params5] at hA hval
  obtain ⟨v0, v1, v2, d0, d1, d2, p0, p1, p2, rfl, rfl, rfl, h0, h1, h2⟩ := trodAll_three hA
  obtain ⟨rfl, rfl⟩ := trodVars_none hV
  obtain ⟨a, b, c, d, rfl, _, _, _, _⟩ := open_box (hval 0 34 v0 rfl rfl) h0
  obtain ⟨a', b', c', d', rfl, _, _, _, _⟩ := open_box (hval 1 34 v1 rfl rfl) h1
  obtain ⟨e, f, g, h, rfl, _, _, _, _⟩ := open_box (hval 2 34 v2 rfl rfl) h2
  refine (joinlaw_walk a b c d a' b' c' d' e f g h W).mono fun e W' ⟨he, hb⟩ => ?_
  subst he
  exact ⟨_, rfl, law_post rfl rfl rfl readable hW' hb⟩

theorem holds : Rows.FnBoxDistanceJoinSaid :=
  OpenClaim.holds_of_wide 5 Try.f5 rfl rfl rfl rfl rfl rfl rfl ⟨rfl, rfl, rfl, rfl, rfl⟩ rfl rfl rfl rfl rfl (by kernel_rfl) Try.func5 (by kernel_rfl)
    (of_decide_eq_true (by kernel_rfl)) (by unfold Func.isWrapper; rw [if_neg (of_decide_eq_false (by kernel_rfl))]; exact ⟨rfl, rfl⟩)
    (fun os started H enc _ => lifted os started H enc)

#print axioms holds
end Go.Proofs.Ytpphfoggjejpiaa.fnBoxDistanceJoin
