/-
  The walks over HasPt and dPlaces. Conditions: as each theorem states them.
-/
import Derived.Test.YtpphfoggjejpiaaGf
import Derived.Test.YtpphfoggjejpiaaGg
namespace Go.Proofs.Ytpphfoggjejpiaa
open Go.RowKit Fl Go.Sort

theorem hasPt_any {ax ay bx by' cx cy : Int} (k1 : W20 ax) (k2 : W20 ay) (k3 : W20 bx) (k4 : W20 by') (k5 : W20 cx) (k6 : W20 cy) (w : World) :
    Calls Try.prog 34 #[.agg #[.int .i64 ax, .int .i64 ay, .int .i64 bx, .int .i64 by'], ptV cx cy] w fun e w' => e = .returned (.bool (holdB ax ay bx by' cx cy)) ∧ Below w.heap.size w w' := by
  have hs := Lib.hid (fun w => holds_any k1 k2 k3 k4 k5 k6 w)
  have ha := Lib.hid (fun w => at_any cx cy w)
  unfold ptV at *
  clear k1 k2 k3 k4 k5 k6
  obtain ⟨H, hH⟩ : ∃ H, H = holdB ax ay bx by' cx cy := ⟨_, rfl⟩
  rw [← hH] at hs ⊢
  clear hH
  go_enter Try.func34, Try.ntmps34
  go_wp2_with fail
  refine wp_region_gr (by kernel_rfl) (by kernel_rfl) ?_
  repeat (first | go_big_quiet_step (first | with_reducible exact Calls.gr_of (ha.out _) | with_reducible exact Calls.gr_of (hs.out _)) | quiet_step (first | with_reducible exact Calls.gr_of (ha.out _) | with_reducible exact Calls.gr_of (hs.out _)))
  refine wpQuiet_nil ?_
  intro _ hw'
  obtain ⟨q, hw''⟩ := hw'
  subst hw''
  go_wp2
  go_ret
  exact ⟨rfl, (by repeat (first | exact Below.refl _ _ | (refine below_gr' ?_ (by first | omega | (simp [go_sem] <;> omega))) | (refine Below.alloc ?_ (by first | omega | (simp [go_sem] <;> omega)) _) | refine Below.drew ?_ | (refine Below.setCell ?_ (by first | omega | (simp [go_sem] <;> omega)) _)))⟩

end Go.Proofs.Ytpphfoggjejpiaa
