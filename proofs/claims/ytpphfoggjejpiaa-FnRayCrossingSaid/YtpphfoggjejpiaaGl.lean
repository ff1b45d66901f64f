/-
  FnRayCrossing: its walk answers true; a whole place as an argument. Conditions: none.
-/
import Derived.Test.YtpphfoggjejpiaaFr
import Derived.Test.YtpphfoggjejpiaaGk
namespace Go.Proofs.Ytpphfoggjejpiaa
open Go.ChangeShapes Go.WideShapes Go.ChangeAt Go.RowKit Fl Go.Sort

theorem ray_true (px py ax ay bx by' : Int) (w : World) :
    Calls Try.prog 8 #[ptV px py, ptV ax ay, ptV bx by'] w fun e w' => e = .returned (.bool true) ∧ Below w.heap.size w w' := by
  by_cases hx : ax = bx
  · subst hx
    by_cases hy : ay = by'
    · subst hy
      exact ray_same px py ax ay w
    · by_cases hf : formB 1048576 [(px, py), (ax, ay), (ax, by')] = true
      · by_cases hH : holdB ax ay ax by' px py = true
        · exact ray_on' px py ax ay by' hf hH (cross_on hH) hy w
        · have hH' : holdB ax ay ax by' px py = false := by simpa using hH
          by_cases hs : by' < ay
          · have c : crossB ax ay ax by' px py = (decide (by' ≤ py) && decide (py < ay) && decide (turn3 ax by' ax ay px py < 0)) := by unfold crossB; rw [if_pos hs]
            by_cases c1 : by' ≤ py
            · by_cases c2 : py < ay
              · exact off113 px py ax ay by' hf hH' hy hs c1 c2 (by rw [c, decide_eq_true c1, decide_eq_true c2]; rfl) w
              · exact off112 px py ax ay by' hf hH' hy hs c1 (by omega) (by rw [c, decide_eq_true c1, decide_eq_false c2]; rfl) w
            · exact off111 px py ax ay by' hf hH' hy hs (by omega) (by rw [c, decide_eq_false c1]; rfl) w
          · have c : crossB ax ay ax by' px py = (decide (ay ≤ py) && decide (py < by') && decide (turn3 ax ay ax by' px py < 0)) := by unfold crossB; rw [if_neg hs]
            by_cases c1 : ay ≤ py
            · by_cases c2 : py < by'
              · exact off103 px py ax ay by' hf hH' hy hs c1 c2 (by rw [c, decide_eq_true c1, decide_eq_true c2]; rfl) w
              · exact off102 px py ax ay by' hf hH' hy hs c1 (by omega) (by rw [c, decide_eq_true c1, decide_eq_false c2]; rfl) w
            · exact off101 px py ax ay by' hf hH' hy hs (by omega) (by rw [c, decide_eq_false c1]; rfl) w
      · exact ray_out px py ax ay ax by' (fun h => hy h.2) (by simpa using hf) w
  · by_cases hf : formB 1048576 [(px, py), (ax, ay), (bx, by')] = true
    · by_cases hH : holdB ax ay bx by' px py = true
      · exact ray_on px py ax ay bx by' hf hH (cross_on hH) hx w
      · have hH' : holdB ax ay bx by' px py = false := by simpa using hH
        by_cases hs : by' < ay
        · have c : crossB ax ay bx by' px py = (decide (by' ≤ py) && decide (py < ay) && decide (turn3 bx by' ax ay px py < 0)) := by unfold crossB; rw [if_pos hs]
          by_cases c1 : by' ≤ py
          · by_cases c2 : py < ay
            · exact off013 px py ax ay bx by' hf hH' hx hs c1 c2 (by rw [c, decide_eq_true c1, decide_eq_true c2]; rfl) w
            · exact off012 px py ax ay bx by' hf hH' hx hs c1 (by omega) (by rw [c, decide_eq_true c1, decide_eq_false c2]; rfl) w
          · exact off011 px py ax ay bx by' hf hH' hx hs (by omega) (by rw [c, decide_eq_false c1]; rfl) w
        · have c : crossB ax ay bx by' px py = (decide (ay ≤ py) && decide (py < by') && decide (turn3 ax ay bx by' px py < 0)) := by unfold crossB; rw [if_neg hs]
          by_cases c1 : ay ≤ py
          · by_cases c2 : py < by'
            · exact off003 px py ax ay bx by' hf hH' hx hs c1 c2 (by rw [c, decide_eq_true c1, decide_eq_true c2]; rfl) w
            · exact off002 px py ax ay bx by' hf hH' hx hs c1 (by omega) (by rw [c, decide_eq_true c1, decide_eq_false c2]; rfl) w
          · exact off001 px py ax ay bx by' hf hH' hx hs (by omega) (by rw [c, decide_eq_false c1]; rfl) w
    · exact ray_out px py ax ay bx by' (fun h => hx h.1) (by simpa using hf) w

theorem cellsPt : Try.prog.cellsOf 52 = 2 := by kernel_rfl

section
variable {H : Type} {enc : TypeId × Value → H}
variable {w : World} {base b0 : Nat} {spare : Nat → Bool} {held : Bool} {v : Value} {d : DataW H} {ps : List MemPlace} {r : Reach}
set_option maxRecDepth 100000 in
/-- A whole place as an argument. -/
theorem open_spt (hval : Value.okWide Try.prog w r b0 52 v) (h : DataW.Trod enc Try.prog w base spare held 52 v d ps) : ∃ x y : Int, v = ptV x y := by
  obtain ⟨c0, c1, y0, y1, m, rfl, rfl, rfl, hy0, hy1⟩ := Joins.open_agg2 Try.underlying52 (by kernel_rfl) cellsPt hval h
  obtain ⟨a, e0, rfl, wa⟩ := DataW.trod_int Try.underlying3 hy0
  obtain ⟨b, e1, rfl, wb⟩ := DataW.trod_int Try.underlying3 hy1
  simp only [List.cons.injEq, and_true] at e0 e1
  subst e0 e1
  exact ⟨a, b, rfl⟩
end
end Go.Proofs.Ytpphfoggjejpiaa
