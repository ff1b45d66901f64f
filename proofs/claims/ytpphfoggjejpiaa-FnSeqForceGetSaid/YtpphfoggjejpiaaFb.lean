/-
  Places turned from one type to the other; their order. Conditions: none.
-/
import Derived.Test.YtpphfoggjejpiaaFa
namespace Go.Proofs.Ytpphfoggjejpiaa
open Go.RowKit Fl Go.Sort

theorem xy_any (a b : Nat) (w : World) :
    Calls Try.prog 63 #[.agg #[.float .f64 a, .float .f64 b]] w fun e w' => e = .returned (.agg #[.float .f64 a, .float .f64 b]) ∧ Below w.heap.size w w' := by
  go_enter Try.func63, Try.ntmps63
  go_wp2
  exact bodyPost_ret (v := .agg #[.float .f64 a, .float .f64 b]) (by simp [results, Try.results63, go_sem]) rfl ⟨rfl, ((Below.refl _ _).alloc (Nat.le_refl _) _).alloc (by simp) _⟩

/-- By the first number, then by the second one. -/
def lessB (a b c d : Nat) : Bool := if FloatKind.f64.format.order a c != some .eq then FloatKind.f64.format.order a c == some .lt else FloatKind.f64.format.order b d == some .lt

theorem less_any (a b c d : Nat) (w : World) :
    Calls Try.prog 64 #[.agg #[.float .f64 a, .float .f64 b], .agg #[.float .f64 c, .float .f64 d]] w fun e w' => e = .returned (.bool (lessB a b c d)) ∧ Below w.heap.size w w' := by
  go_enter Try.func64, Try.ntmps64
  go_wp2
  all_goals go_ret
  all_goals exact ⟨by simp [lessB, *], ((Below.refl _ _).alloc (Nat.le_refl _) _).alloc (by simp) _⟩

theorem XYLess_any (a b c d : Nat) (w : World) :
    Calls Try.prog 16 #[.agg #[.float .f64 a, .float .f64 b], .agg #[.float .f64 c, .float .f64 d]] w fun e w' => e = .returned (.bool (lessB a b c d)) ∧ Below w.heap.size w w' := by
  go_enter Try.func16, Try.ntmps16
  go_wp2
  refine wp_region_gr (by kernel_rfl) (by kernel_rfl) ?_
  repeat (quiet_step (first | exact Calls.gr_of (xy_any _ _ _) | exact Calls.gr_of (less_any _ _ _ _ _)))
  refine wpQuiet_nil ?_
  intro _ hw'
  obtain ⟨p, hw''⟩ := hw'
  subst hw''
  go_wp2
  go_ret
  exact ⟨rfl, (((Below.refl _ _).alloc (Nat.le_refl _) _).alloc (by simp) _).trans ((gr_below _ _).mono (by simp; omega))⟩
end Go.Proofs.Ytpphfoggjejpiaa
