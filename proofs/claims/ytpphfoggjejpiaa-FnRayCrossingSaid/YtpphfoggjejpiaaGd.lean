/-
  The walks over the reference's plane: turn, a place on a segment. Conditions: whole numbers from -2^20 to 2^20.
-/
import Derived.Test.YtpphfoggjejpiaaGa
namespace Go.Proofs.Ytpphfoggjejpiaa
open Go.RowKit Fl Go.Sort

def ptV (x y : Int) : Value := .agg #[.int .i64 x, .int .i64 y]
def turn3 (ax ay bx by' cx cy : Int) : Int := (bx - ax) * (cy - ay) - (by' - ay) * (cx - ax)

def holdB (ax ay bx by' px py : Int) : Bool := decide (turn3 ax ay bx by' px py = 0) && (decide (min ax bx ≤ px) && decide (px ≤ max ax bx) && (decide (min ay by' ≤ py) && decide (py ≤ max ay by')))

theorem turn_any {ax ay bx by' cx cy : Int} (k1 : W20 ax) (k2 : W20 ay) (k3 : W20 bx) (k4 : W20 by') (k5 : W20 cx) (k6 : W20 cy) (w : World) :
    Calls Try.prog 35 #[ptV ax ay, ptV bx by', ptV cx cy] w fun e w' => e = .returned (.int .i64 (turn3 ax ay bx by' cx cy)) ∧ Below w.heap.size w w' := by
  unfold W20 at *
  have b1 := prod_bound (a := bx - ax) (b := cy - ay) (by omega) (by omega)
  have b2 := prod_bound (a := by' - ay) (b := cx - ax) (by omega) (by omega)
  obtain ⟨b11, b12⟩ := b1
  obtain ⟨b21, b22⟩ := b2
  unfold turn3 ptV
  go_enter Try.func35, Try.ntmps35
  go_wp2
  go_ret
  exact ⟨rfl, (by repeat (first | exact Below.refl _ _ | (refine below_gr' ?_ (by first | omega | (simp [go_sem] <;> omega))) | (refine Below.alloc ?_ (by first | omega | (simp [go_sem] <;> omega)) _) | refine Below.drew ?_ | (refine Below.setCell ?_ (by first | omega | (simp [go_sem] <;> omega)) _)))⟩

theorem side_any {ax ay bx by' cx cy : Int} (k1 : W20 ax) (k2 : W20 ay) (k3 : W20 bx) (k4 : W20 by') (k5 : W20 cx) (k6 : W20 cy) (w : World) :
    Calls Try.prog 126 #[.agg #[.int .i64 ax, .int .i64 ay, .int .i64 bx, .int .i64 by'], .agg #[.int .i64 cx, .int .i64 cy, .int .i64 1]] w fun e w' => e = .returned (.int .i64 (turn3 ax ay bx by' cx cy)) ∧ Below w.heap.size w w' := by
  unfold W20 at *
  have b1 := prod_bound (a := bx - ax) (b := cy - ay) (by omega) (by omega)
  have b2 := prod_bound (a := by' - ay) (b := cx - ax) (by omega) (by omega)
  obtain ⟨b11, b12⟩ := b1
  obtain ⟨b21, b22⟩ := b2
  unfold turn3
  go_enter Try.func126, Try.ntmps126
  go_wp2
  go_ret
  exact ⟨rfl, (by repeat (first | exact Below.refl _ _ | (refine below_gr' ?_ (by first | omega | (simp [go_sem] <;> omega))) | (refine Below.alloc ?_ (by first | omega | (simp [go_sem] <;> omega)) _) | refine Below.drew ?_ | (refine Below.setCell ?_ (by first | omega | (simp [go_sem] <;> omega)) _)))⟩
end Go.Proofs.Ytpphfoggjejpiaa
