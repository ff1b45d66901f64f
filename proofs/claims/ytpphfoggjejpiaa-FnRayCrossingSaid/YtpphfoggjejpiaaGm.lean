/-
  FnRayCrossing: of a place and a segment it is told whether the place is on it, and whether a level ray to the left crosses it: the law answers true for every input. Conditions: none.
-/
import Derived.Test.YtpphfoggjejpiaaGl
namespace Go.Proofs.Ytpphfoggjejpiaa.fnRayCrossing
open Go.ChangeShapes Go.WideShapes Go.ChangeAt Go.RowKit

theorem readable : ∀ t ∈ Try.f8.params.toList, Try.prog.readableRec t = true ∧ t < Try.prog.types.size := by
  intro t ht
  have e : Try.f8.params.toList = [52, 52, 52] := rfl
  rw [e] at ht
  simp only [List.mem_cons, List.not_mem_nil, or_false] at ht
  rcases ht with rfl | rfl | rfl <;> exact ⟨by kernel_rfl, of_decide_eq_true (by kernel_rfl)⟩

set_option maxRecDepth 100000 in
theorem lifted (os : Os) (started : os.Started) (H : Type) (enc : TypeId × Value → H) :
    ReturnsInHanded {} Try.checked os 8 .any (Rows.fnRayCrossingSpec.pre6 enc Try.prog Try.f8 Rows.fnRayCrossingRow.domain false) (Rows.fnRayCrossingSpec.post enc Try.prog Try.f8 false true false false) := by
  refine returnsInHanded_of_change (C := Try.checked) Try.own started (by kernel_rfl) Try.func8
    (ChangeSpec.witness6 (enc := enc) (C := Try.checked) false ⟨#[], #[.agg #[.int .i64 0, .int .i64 0], .agg #[.int .i64 0, .int .i64 0], .agg #[.int .i64 0, .int .i64 0]], []⟩ 8 (by kernel_rfl) (by kernel_rfl) (by kernel_rfl) (by kernel_rfl)) ?_
  intro W base args ds gs before hval0 hW _ hsz
  have hval : ∀ (j : Nat) t v, Try.f8.params[j]? = some t → args[j]? = some v → Value.okWide Try.prog W .any base t v := hval0
  have hW' := hW
  obtain ⟨p, q, hA0, hV, rfl, _, _⟩ := hW
  have hA : DataW.TrodAll enc Try.prog W 0 (fun _ => true) true Try.f8.params.toList args.toList ds p := hA0
  rw [Try.params8] at hA hval
  obtain ⟨v0, v1, v2, d0, d1, d2, p0, p1, p2, rfl, rfl, rfl, h0, h1, h2⟩ := trodAll_three hA
  obtain ⟨rfl, rfl⟩ := trodVars_none hV
  obtain ⟨px, py, rfl⟩ := open_spt (hval 0 52 v0 rfl rfl) h0
  obtain ⟨ax, ay, rfl⟩ := open_spt (hval 1 52 v1 rfl rfl) h1
  obtain ⟨bx, by', rfl⟩ := open_spt (hval 2 52 v2 rfl rfl) h2
  refine (ray_true px py ax ay bx by' W).mono fun e W' ⟨he, hb⟩ => ?_
  subst he
  exact ⟨_, rfl, law_post rfl rfl rfl readable hW' hb⟩

theorem holds : Rows.FnRayCrossingSaid :=
  OpenClaim.holds_of_wide 8 Try.f8 rfl rfl rfl rfl rfl rfl rfl ⟨rfl, rfl, rfl, rfl, rfl⟩ rfl rfl rfl rfl rfl (by kernel_rfl) Try.func8 (by kernel_rfl)
    (of_decide_eq_true (by kernel_rfl)) (by unfold Func.isWrapper; rw [if_neg (of_decide_eq_false (by kernel_rfl))]; exact ⟨rfl, rfl⟩)
    (fun os started H enc _ => lifted os started H enc)

#print axioms holds
end Go.Proofs.Ytpphfoggjejpiaa.fnRayCrossing
