/-
  The walks over sequences, continued: the test of their places. Conditions: as each theorem states them.
-/
import Derived.Test.YtpphfoggjejpiaaKa
import Derived.Test.YtpphfoggjejpiaaGb
namespace Go.Proofs.Ytpphfoggjejpiaa
open Go.RowKit Fl Go.Sort

/-- A value of an interface that is not nil. -/
def IsErr (v : Value) : Prop := ∃ t x, v = .iface t x

set_option maxHeartbeats 3000000 in
theorem validXY_bad {x y : Nat} (hx : x < 2 ^ 64) (hy : y < 2 ^ 64) (h : (fin x && fin y) = false) (w : World) :
    Calls Try.prog 175 #[.agg #[.float .f64 x, .float .f64 y]] w fun e w' => (∃ v, e = .returned v ∧ IsErr v) ∧ Below w.heap.size w w' := by
  rw [← fin_eq hx, ← fin_eq hy] at h
  obtain ⟨n1, hn1⟩ : ∃ b, b = nanB x := ⟨_, rfl⟩
  obtain ⟨n2, hn2⟩ : ∃ b, b = nanB y := ⟨_, rfl⟩
  obtain ⟨i1, hi1⟩ : ∃ b, b = infB x := ⟨_, rfl⟩
  obtain ⟨i2, hi2⟩ : ∃ b, b = infB y := ⟨_, rfl⟩
  have g1 := Lib.hid (fun w => isNaN_any x w)
  have g2 := Lib.hid (fun w => isNaN_any y w)
  have g3 := Lib.hid (fun w => isInf_any x w)
  have g4 := Lib.hid (fun w => isInf_any y w)
  rw [← hn1] at g1 h
  rw [← hn2] at g2 h
  rw [← hi1] at g3 h
  rw [← hi2] at g4 h
  clear hn1 hn2 hi1 hi2 hx hy
  cases n1 <;> cases n2 <;> cases i1 <;> cases i2
  all_goals first | (exfalso; revert h; decide) | skip
  all_goals
    go_enter Try.func175, Try.ntmps175
    go_wp2_with (first | (go_at_call 73; refine Calls.mono (by first | with_reducible exact g1.out _ | with_reducible exact g2.out _) ?_; rintro e w' ⟨rfl, rfl⟩) | (go_at_call 74; refine Calls.mono (by first | with_reducible exact g3.out _ | with_reducible exact g4.out _) ?_; rintro e w' ⟨rfl, rfl⟩) | (go_at_call 141; go_in))
    go_ret
    exact ⟨⟨_, rfl, _, _, rfl⟩, (by repeat (first | exact Below.refl _ _ | (refine below_gr' ?_ (by first | omega | (simp [go_sem] <;> omega))) | (refine Below.alloc ?_ (by first | omega | (simp [go_sem] <;> omega)) _) | refine Below.drew ?_ | (refine Below.setCell ?_ (by first | omega | (simp [go_sem] <;> omega)) _)))⟩
end Go.Proofs.Ytpphfoggjejpiaa
