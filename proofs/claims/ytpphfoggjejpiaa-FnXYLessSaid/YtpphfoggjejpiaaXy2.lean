/-
  FnXYLess: of two places with finite numbers one is less than the other just if its X is, or X is equal and its Y is: the law answers true for every input. Conditions: none.
-/
import Derived.Test.YtpphfoggjejpiaaFr
import Derived.Test.YtpphfoggjejpiaaXy1
namespace Go.Proofs.Ytpphfoggjejpiaa.fnXYLess
open Go.ChangeShapes Go.WideShapes Go.ChangeAt Go.RowKit Go.Joins

theorem cells : Try.prog.cellsOf 24 = 2 := by kernel_rfl
theorem readable : ∀ t ∈ Try.f3.params.toList, Try.prog.readableRec t = true ∧ t < Try.prog.types.size := by
  intro t ht
  have e : Try.f3.params.toList = [24, 24] := rfl
  rw [e] at ht
  simp only [List.mem_cons, List.not_mem_nil, or_false, or_self] at ht
  subst ht
  exact ⟨by kernel_rfl, of_decide_eq_true (by kernel_rfl)⟩

set_option maxRecDepth 100000 in
theorem lifted (os : Os) (started : os.Started) (H : Type) (enc : TypeId × Value → H) :
    ReturnsInHanded {} Try.checked os 3 .any (Rows.fnXYLessSpec.pre6 enc Try.prog Try.f3 Rows.fnXYLessRow.domain false) (Rows.fnXYLessSpec.post enc Try.prog Try.f3 false true false false) := by
  refine returnsInHanded_of_change (C := Try.checked) Try.own started (by kernel_rfl) Try.func3
    (ChangeSpec.witness6 (enc := enc) (C := Try.checked) false ⟨#[], #[.agg #[.float .f64 0, .float .f64 0], .agg #[.float .f64 0, .float .f64 0]], []⟩ 8 (by kernel_rfl) (by kernel_rfl) (by kernel_rfl) (by kernel_rfl)) ?_
  intro W base args ds gs before hval0 hW _ _
  have hval : ∀ (j : Nat) t v, Try.f3.params[j]? = some t → args[j]? = some v → Value.okWide Try.prog W .any base t v := hval0
  have hW' := hW
  obtain ⟨p, q, hA0, hV, rfl, _, _⟩ := hW
  have hA : DataW.TrodAll enc Try.prog W 0 (fun _ => true) true Try.f3.params.toList args.toList ds p := hA0
  rw [Try.params3] at hA hval
  obtain ⟨v0, v1, d0, d1, p0, p1, rfl, rfl, rfl, h0, h1⟩ := trodAll_two hA
  obtain ⟨rfl, rfl⟩ := trodVars_none hV
  obtain ⟨c0, c1, y0, y1, m, rfl, rfl, rfl, hy0, hy1⟩ := open_agg2 Try.underlying24 (by kernel_rfl) cells (hval 0 24 v0 rfl rfl) h0
  obtain ⟨c2, c3, y2, y3, m', rfl, rfl, rfl, hy2, hy3⟩ := open_agg2 Try.underlying24 (by kernel_rfl) cells (hval 1 24 v1 rfl rfl) h1
  obtain ⟨a, e0, rfl, wa⟩ := trod_float Try.underlying22 hy0
  obtain ⟨b, e1, rfl, wb⟩ := trod_float Try.underlying22 hy1
  obtain ⟨c, e2, rfl, wc⟩ := trod_float Try.underlying22 hy2
  obtain ⟨d, e3, rfl, wd⟩ := trod_float Try.underlying22 hy3
  simp only [List.cons.injEq, and_true] at e0 e1 e2 e3
  subst e0 e1 e2 e3
  refine (xyless_walk a b c d (f64_lt wa) (f64_lt wb) (f64_lt wc) (f64_lt wd) W).mono fun e W' ⟨he, hb⟩ => ?_
  subst he
  exact ⟨_, rfl, law_post rfl rfl rfl readable hW' hb⟩

theorem holds : Rows.FnXYLessSaid :=
  OpenClaim.holds_of_wide 3 Try.f3 rfl rfl rfl rfl rfl rfl rfl ⟨rfl, rfl, rfl, rfl, rfl⟩ rfl rfl rfl rfl rfl (by kernel_rfl) Try.func3 (by kernel_rfl)
    (of_decide_eq_true (by kernel_rfl)) (by unfold Func.isWrapper; rw [if_neg (of_decide_eq_false (by kernel_rfl))]; exact ⟨rfl, rfl⟩)
    (fun os started H enc _ => lifted os started H enc)

#print axioms holds
end Go.Proofs.Ytpphfoggjejpiaa.fnXYLess
