/-
  The walk over the crossing of a ray, where the ends are exchanged. Conditions: as the theorem states them.
-/
import Derived.Test.YtpphfoggjejpiaaGb
namespace Go.Proofs.Ytpphfoggjejpiaa
open Go.RowKit Fl Go.Sort

set_option maxHeartbeats 2000000 in
theorem hasCrossing_ex {px py ax ay bx by' : Nat} {Px Py Ax Ay Bx By : Int} (h1 : IsI px Px) (h2 : IsI py Py) (h3 : IsI ax Ax) (h4 : IsI ay Ay) (h5 : IsI bx Bx) (h6 : IsI by' By)
    (k1 : W20 Px) (k2 : W20 Py) (k3 : W20 Ax) (k4 : W20 Ay) (k5 : W20 Bx) (k6 : W20 By) (l1 : px < 2 ^ 64) (l2 : py < 2 ^ 64) (hsw : (FloatKind.f64.format.order ay by' == some .gt) = true) (w : World) :
    Calls Try.prog 125 #[.agg #[.float .f64 px, .float .f64 py], .agg #[.float .f64 ax, .float .f64 ay, .float .f64 bx, .float .f64 by']] w fun e w' =>
      e = .returned (.tuple #[.bool (geF py by' && ltF py ay && (signB (turnI Bx By Ax Ay Px Py) == 1)), .bool (inB px py (loB ax bx) (loB ay by') (hiB ax bx) (hiB ay by') && (signB (turnI Bx By Ax Ay Px Py) == 2))]) ∧ Below w.heap.size w w' := by
  have ho := Lib.hid (fun w => orientation_any h5 h6 h3 h4 h1 h2 k5 k6 k3 k4 k1 k2 w)
  have hu := Lib.hid (fun w => unchEnv_any ax ay bx by' w)
  have hc := Lib.hid (fun w => contains_any l1 l2 h1.fin h2.fin (loB ax bx) (loB ay by') (hiB ax bx) (hiB ay by') w)
  obtain ⟨O, hO⟩ : ∃ O, O = signB (turnI Bx By Ax Ay Px Py) := ⟨_, rfl⟩
  rw [← hO] at ho ⊢
  obtain ⟨I, hI⟩ : ∃ I, I = inB px py (loB ax bx) (loB ay by') (hiB ax bx) (hiB ay by') := ⟨_, rfl⟩
  rw [← hI] at hc ⊢
  obtain ⟨G, hG⟩ : ∃ G, G = geF py by' := ⟨_, rfl⟩
  obtain ⟨L, hL⟩ : ∃ L, L = ltF py ay := ⟨_, rfl⟩
  rw [← hG, ← hL]
  unfold geF at hG
  unfold ltF at hL
  replace hG := hG.symm
  replace hL := hL.symm
  clear h1 h2 h3 h4 h5 h6 k1 k2 k3 k4 k5 k6 l1 l2 hO hI
  cases G <;> cases L <;> cases I
  all_goals
    go_enter Try.func125, Try.ntmps125
    go_wp2_with fail
    go_region
    all_goals
      go_wp2_with (go_at_call 171; refine (ho.out _).mono ?_; rintro e w' ⟨rfl, hb⟩; obtain ⟨q, rfl⟩ := gr_of_below hb; clear hb)
  all_goals
    first | refine wp_region_gr' (by kernel_rfl) (by kernel_rfl) ?_ | refine wp_region_gr (by kernel_rfl) (by kernel_rfl) ?_
    repeat (first | go_big_quiet_step (first | with_reducible exact Calls.gr_of (hu.out _) | with_reducible exact Calls.gr_of (hc.out _)) | quiet_step (first | with_reducible exact Calls.gr_of (hu.out _) | with_reducible exact Calls.gr_of (hc.out _)))
    refine wpQuiet_nil ?_
    intro _ hw'
    obtain ⟨q, hw''⟩ := hw'
    subst hw''
    go_wp2
    refine bodyPost_ret ?_ rfl ⟨rfl, ?_⟩
    · simp [results, Try.results125, go_sem]
    · exact (by repeat (first | exact Below.refl _ _ | (refine below_gr' ?_ (by first | omega | (simp [go_sem] <;> omega))) | (refine Below.alloc ?_ (by first | omega | (simp [go_sem] <;> omega)) _) | refine Below.drew ?_ | (refine Below.setCell ?_ (by first | omega | (simp [go_sem] <;> omega)) _)))
end Go.Proofs.Ytpphfoggjejpiaa
