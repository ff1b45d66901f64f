/-
  The walks over boxes: the least of two numbers, the greatest, the box around two. Conditions: none.
-/
import Derived.Test.YtpphfoggjejpiaaFa
import Derived.Test.YtpphfoggjejpiaaTl
import Derived.BigQuiet
namespace Go.Proofs.Ytpphfoggjejpiaa
open Go.RowKit Fl Go.Sort

def ltB (a b : Nat) : Bool := FloatKind.f64.format.order a b == some .lt
def gtB (a b : Nat) : Bool := FloatKind.f64.format.order a b == some .gt
def minR (a b : Nat) : Nat := if ltB a b then a else b
def maxR (a b : Nat) : Nat := if gtB a b then a else b

theorem rmin_any (a b : Nat) (w : World) :
    Calls Try.prog 168 #[.float .f64 a, .float .f64 b] w fun e w' => e = .returned (.float .f64 (minR a b)) ∧ w = w' := by
  go_enter Try.func168, Try.ntmps168
  go_wp2
  all_goals go_ret
  · exact ⟨by simp [minR, ltB, *], rfl⟩
  · exact ⟨by simp [minR, ltB, *], rfl⟩

theorem rmax_any (a b : Nat) (w : World) :
    Calls Try.prog 169 #[.float .f64 a, .float .f64 b] w fun e w' => e = .returned (.float .f64 (maxR a b)) ∧ w = w' := by
  go_enter Try.func169, Try.ntmps169
  go_wp2
  all_goals go_ret
  · exact ⟨by simp [maxR, gtB, *], rfl⟩
  · exact ⟨by simp [maxR, gtB, *], rfl⟩

/-- A box as a value. -/
def boxV (x0 y0 x1 y1 : Nat) : Value := .agg #[.float .f64 x0, .float .f64 y0, .float .f64 x1, .float .f64 y1]

theorem combine_any (a0 b0 a1 b1 c0 d0 c1 d1 : Nat) (w : World) :
    Calls Try.prog 116 #[boxV a0 b0 a1 b1, boxV c0 d0 c1 d1] w fun e w' => e = .returned (boxV (minR a0 c0) (minR b0 d0) (maxR a1 c1) (maxR b1 d1)) ∧ Below w.heap.size w w' := by
  unfold boxV
  go_enter Try.func116, Try.ntmps116
  go_wp2_with fail
  refine wp_region_gr_tail 21 (by kernel_rfl) (by kernel_rfl) (by kernel_rfl) ?_
  simp only [tailOps, idle, List.take_succ_cons, List.take_zero, List.drop_succ_cons, List.drop_zero, List.map_cons, List.map_nil, List.cons_append, List.nil_append]
  repeat (first | go_big_quiet_step (first | exact Calls.gr_of_same (rmin_any _ _ _) | exact Calls.gr_of_same (rmax_any _ _ _)) | quiet_step (first | exact Calls.gr_of_same (rmin_any _ _ _) | exact Calls.gr_of_same (rmax_any _ _ _)))
  refine wpQuiet_nil ?_
  intro _ hw'
  obtain ⟨q, hw''⟩ := hw'
  subst hw''
  go_wp2
  refine bodyPost_ret (v := .agg #[.float .f64 (minR a0 c0), .float .f64 (minR b0 d0), .float .f64 (maxR a1 c1), .float .f64 (maxR b1 d1)]) (by simp [results, Try.results116, go_sem]) rfl ⟨rfl, (by repeat (first | exact Below.refl _ _ | (refine below_gr' ?_ (by first | omega | (simp [go_sem] <;> omega))) | (refine Below.alloc ?_ (by first | omega | (simp [go_sem] <;> omega)) _) | refine Below.drew ?_ | (refine Below.setCell ?_ (by first | omega | (simp [go_sem] <;> omega)) _)))⟩
end Go.Proofs.Ytpphfoggjejpiaa
