/-
  FnEnvTransform: its walk. Conditions: as each theorem states them.
-/
import Derived.Test.YtpphfoggjejpiaaHd
namespace Go.Proofs.Ytpphfoggjejpiaa
open Go.RowKit Fl Go.Sort

set_option maxHeartbeats 1000000 in
/-- Where the law's tests fail it answers true. -/
theorem et_out (e : En) (a b c d f g : Nat) (h : (whE e && (wholeB a && wholeB b && wholeB c && wholeB d && wholeB f && wholeB g)) = false) (w : World) :
    Calls Try.prog 9 #[e.p, mapV a b c d f g] w fun en w' => en = .returned (.bool true) ∧ Below w.heap.size w w' := by
  have hr := Lib.hid (fun b off cap w hlt hE => eRound_any b off cap e w hlt hE)
  have hm := Lib.hid (fun w => mapAll_any a b c d f g w)
  generalize whE e = R at *
  generalize (wholeB a && wholeB b && wholeB c && wholeB d && wholeB f && wholeB g) = M at *
  obtain ⟨E, hE⟩ : ∃ E, E = e := ⟨_, rfl⟩
  unfold En.p mapV at *
  cases R <;> cases M
  all_goals first | (exfalso; revert h; decide) | skip
  all_goals
    clear h
    go_enter Try.func9, Try.ntmps9
    go_wp2_with (first | (go_at_call 36; refine (hr.out _ _ _ _ (by simp) ⟨by go_simp, by go_simp, by go_simp, by go_simp, by go_simp⟩).mono ?_; rintro e w' ⟨rfl, hq⟩; obtain ⟨q, rfl⟩ := gr_of_below hq; clear hq) | (go_at_call 37; refine (hm.out _).mono ?_; rintro e w' ⟨rfl, hq⟩; obtain ⟨q, rfl⟩ := gr_of_below hq; clear hq))
    go_ret
    exact ⟨rfl, (by repeat (first | exact Below.refl _ _ | (refine below_gr' ?_ (by first | omega | (simp [go_sem] <;> omega))) | (refine Below.alloc ?_ (by first | omega | (simp [go_sem] <;> omega)) _) | refine Below.drew ?_ | (refine Below.setCell ?_ (by first | omega | (simp [go_sem] <;> omega)) _)))⟩
end Go.Proofs.Ytpphfoggjejpiaa
