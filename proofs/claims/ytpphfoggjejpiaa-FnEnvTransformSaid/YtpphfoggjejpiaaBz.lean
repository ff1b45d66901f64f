/-
  The walks over boxes, continued: meeting; the doors and the thin package; the law's own tests. Conditions: as each theorem states them.
-/
import Derived.Test.YtpphfoggjejpiaaBy
namespace Go.Proofs.Ytpphfoggjejpiaa
open Go.RowKit Fl Go.Sort

def leB (a b : Nat) : Bool := FloatKind.f64.format.order a b == some .lt || FloatKind.f64.format.order a b == some .eq
def geB (a b : Nat) : Bool := FloatKind.f64.format.order a b == some .gt || FloatKind.f64.format.order a b == some .eq
def ovB (a0 b0 a1 b1 c0 d0 c1 d1 : Nat) : Bool := leB a0 c1 && geB a1 c0 && leB b0 d1 && geB b1 d0
def tmB (a0 b0 a1 b1 c0 d0 c1 d1 : Nat) : Bool := leB a0 c1 && leB c0 a1 && leB b0 d1 && leB d0 b1

theorem overlap_any (a0 b0 a1 b1 c0 d0 c1 d1 : Nat) (w : World) :
    Calls Try.prog 118 #[boxV a0 b0 a1 b1, boxV c0 d0 c1 d1] w fun e w' => e = .returned (.bool (ovB a0 b0 a1 b1 c0 d0 c1 d1)) ∧ Below w.heap.size w w' := by
  unfold boxV
  go_enter Try.func118, Try.ntmps118
  go_wp2
  all_goals go_ret
  all_goals refine ⟨?_, (by repeat (first | exact Below.refl _ _ | (refine below_gr' ?_ (by first | omega | (simp [go_sem] <;> omega))) | (refine Below.alloc ?_ (by first | omega | (simp [go_sem] <;> omega)) _) | refine Below.drew ?_ | (refine Below.setCell ?_ (by first | omega | (simp [go_sem] <;> omega)) _)))⟩
  all_goals simp [ovB, leB, geB, *]

theorem tMeet_any (a0 b0 a1 b1 c0 d0 c1 d1 : Nat) (w : World) :
    Calls Try.prog 23 #[boxV a0 b0 a1 b1, boxV c0 d0 c1 d1] w fun e w' => e = .returned (.bool (tmB a0 b0 a1 b1 c0 d0 c1 d1)) ∧ Below w.heap.size w w' := by
  unfold boxV
  go_enter Try.func23, Try.ntmps23
  go_wp2
  all_goals go_ret
  all_goals refine ⟨?_, (by repeat (first | exact Below.refl _ _ | (refine below_gr' ?_ (by first | omega | (simp [go_sem] <;> omega))) | (refine Below.alloc ?_ (by first | omega | (simp [go_sem] <;> omega)) _) | refine Below.drew ?_ | (refine Below.setCell ?_ (by first | omega | (simp [go_sem] <;> omega)) _)))⟩
  all_goals simp [tmB, leB, *]

theorem box_any (a b c d : Nat) (w : World) :
    Calls Try.prog 69 #[boxV a b c d] w fun e w' => e = .returned (boxV a b c d) ∧ Below w.heap.size w w' := by
  unfold boxV
  go_enter Try.func69, Try.ntmps69
  go_wp2
  exact bodyPost_ret (v := .agg #[.float .f64 a, .float .f64 b, .float .f64 c, .float .f64 d]) (by simp [results, Try.results69, go_sem]) rfl ⟨rfl, (by repeat (first | exact Below.refl _ _ | (refine below_gr' ?_ (by first | omega | (simp [go_sem] <;> omega))) | (refine Below.alloc ?_ (by first | omega | (simp [go_sem] <;> omega)) _) | refine Below.drew ?_ | (refine Below.setCell ?_ (by first | omega | (simp [go_sem] <;> omega)) _)))⟩

theorem fromBox_any (a b c d : Nat) (w : World) :
    Calls Try.prog 67 #[boxV a b c d] w fun e w' => e = .returned (boxV a b c d) ∧ Below w.heap.size w w' := by
  unfold boxV
  go_enter Try.func67, Try.ntmps67
  go_wp2
  exact bodyPost_ret (v := .agg #[.float .f64 a, .float .f64 b, .float .f64 c, .float .f64 d]) (by simp [results, Try.results67, go_sem]) rfl ⟨rfl, (by repeat (first | exact Below.refl _ _ | (refine below_gr' ?_ (by first | omega | (simp [go_sem] <;> omega))) | (refine Below.alloc ?_ (by first | omega | (simp [go_sem] <;> omega)) _) | refine Below.drew ?_ | (refine Below.setCell ?_ (by first | omega | (simp [go_sem] <;> omega)) _)))⟩

theorem doorCombine_any (a0 b0 a1 b1 c0 d0 c1 d1 : Nat) (w : World) :
    Calls Try.prog 68 #[boxV a0 b0 a1 b1, boxV c0 d0 c1 d1] w fun e w' => e = .returned (boxV (minR a0 c0) (minR b0 d0) (maxR a1 c1) (maxR b1 d1)) ∧ Below w.heap.size w w' := by
  go_enter Try.func68, Try.ntmps68
  unfold boxV
  go_wp2_with fail
  refine (combine_any a0 b0 a1 b1 c0 d0 c1 d1 _).mono ?_
  rintro e w1 ⟨rfl, hb⟩
  obtain ⟨q, rfl⟩ := gr_of_below hb
  clear hb
  unfold boxV
  go_wp2
  exact bodyPost_ret (v := .agg #[.float .f64 (minR a0 c0), .float .f64 (minR b0 d0), .float .f64 (maxR a1 c1), .float .f64 (maxR b1 d1)]) (by simp [results, Try.results68, go_sem]) rfl ⟨rfl, (by repeat (first | exact Below.refl _ _ | (refine below_gr' ?_ (by first | omega | (simp [go_sem] <;> omega))) | (refine Below.alloc ?_ (by first | omega | (simp [go_sem] <;> omega)) _) | refine Below.drew ?_ | (refine Below.setCell ?_ (by first | omega | (simp [go_sem] <;> omega)) _)))⟩
end Go.Proofs.Ytpphfoggjejpiaa
