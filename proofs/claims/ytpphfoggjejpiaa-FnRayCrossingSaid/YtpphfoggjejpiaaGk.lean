/-
  FnRayCrossing: its walk, where the place is not on the segment. Conditions: as each theorem states them.
-/
import Derived.Test.YtpphfoggjejpiaaGj
namespace Go.Proofs.Ytpphfoggjejpiaa
open Go.RowKit Fl Go.Sort

theorem w20_three {px py ax ay bx by' : Int} (hf : formB 1048576 [(px, py), (ax, ay), (bx, by')] = true) : W20 px ∧ W20 py ∧ W20 ax ∧ W20 ay ∧ W20 bx ∧ W20 by' := by
  unfold formB at hf
  simp only [List.all_cons, List.all_nil, Bool.and_true, Bool.and_eq_true] at hf
  have a1 := w20_of hf.1
  have a2 := w20_of hf.2.1
  have a3 := w20_of hf.2.2
  exact ⟨a1.1, a1.2, a2.1, a2.2, a3.1, a3.2⟩

set_option maxHeartbeats 4000000 in
theorem off001 (px py ax ay bx by' : Int) (hf : formB 1048576 [(px, py), (ax, ay), (bx, by')] = true) (hH : holdB ax ay bx by' px py = false) (hx : ¬ ax = bx) (hs : ¬ by' < ay) (c1 : py < ay) (c : crossB ax ay bx by' px py = false) (w : World) :
    Calls Try.prog 8 #[ptV px py, ptV ax ay, ptV bx by'] w fun e w' => e = .returned (.bool true) ∧ Below w.heap.size w w' := by
  have hd := Lib.hid (fun ty w b cap hb => dThree px py ax ay bx by' ty w b cap hb)
  rw [hf] at hd
  obtain ⟨k1, k2, k3, k4, k5, k6⟩ := w20_three hf
  have hh := Lib.hid (fun w => hasPt_any k3 k4 k5 k6 k1 k2 w)
  rw [hH] at hh
  have hr := Lib.hid (fun w => ray_flI k1 k2 k3 k4 k5 k6 w)
  rw [hH, c] at hr
  clear c
  have h1 := Lib.hid (fun w => lxy_any px py w)
  have h2 := Lib.hid (fun w => lxy_any ax ay w)
  have h3 := Lib.hid (fun w => lxy_any bx by' w)
  have ht := Lib.hid trivial
  clear hf hH k1 k2 k3 k4 k5 k6
  unfold ptV at *
  go_enter Try.func8, Try.ntmps8
  go_wp2_with (first | (go_at_call 31; refine (hd.out _ _ _ _ (by simp)).mono ?_; rintro e w' ⟨rfl, hq⟩; obtain ⟨q, rfl⟩ := gr_of_below hq; clear hq) | (go_at_call 34; refine (hh.out _).mono ?_; rintro e w' ⟨rfl, hq⟩; obtain ⟨q, rfl⟩ := gr_of_below hq; clear hq) | (go_at_call 35; refine (ht.out _).mono ?_; rintro e w' ⟨rfl, hq⟩; obtain ⟨q, rfl⟩ := gr_of_below hq; clear hq))
  refine wp_region_gr' (by kernel_rfl) (by kernel_rfl) ?_
  repeat (first | go_big_quiet_step (first | with_reducible exact Calls.gr_of (h1.out _) | with_reducible exact Calls.gr_of (h2.out _) | with_reducible exact Calls.gr_of (h3.out _) | with_reducible exact Calls.gr_of (hr.out _)) | quiet_step (first | with_reducible exact Calls.gr_of (h1.out _) | with_reducible exact Calls.gr_of (h2.out _) | with_reducible exact Calls.gr_of (h3.out _) | with_reducible exact Calls.gr_of (hr.out _)))
  refine wpQuiet_nil ?_
  intro _ hw'
  obtain ⟨q, hw''⟩ := hw'
  subst hw''
  go_wp2_with (first | (go_at_call 31; refine (hd.out _ _ _ _ (by simp)).mono ?_; rintro e w' ⟨rfl, hq⟩; obtain ⟨q, rfl⟩ := gr_of_below hq; clear hq) | (go_at_call 34; refine (hh.out _).mono ?_; rintro e w' ⟨rfl, hq⟩; obtain ⟨q, rfl⟩ := gr_of_below hq; clear hq) | (go_at_call 35; refine (ht.out _).mono ?_; rintro e w' ⟨rfl, hq⟩; obtain ⟨q, rfl⟩ := gr_of_below hq; clear hq))
  go_region
  all_goals
    go_wp2_with (first | (go_at_call 31; refine (hd.out _ _ _ _ (by simp)).mono ?_; rintro e w' ⟨rfl, hq⟩; obtain ⟨q, rfl⟩ := gr_of_below hq; clear hq) | (go_at_call 34; refine (hh.out _).mono ?_; rintro e w' ⟨rfl, hq⟩; obtain ⟨q, rfl⟩ := gr_of_below hq; clear hq) | (go_at_call 35; refine (ht.out _).mono ?_; rintro e w' ⟨rfl, hq⟩; obtain ⟨q, rfl⟩ := gr_of_below hq; clear hq))
    go_ret
    exact ⟨by first | rfl | simp, (by repeat (first | exact Below.refl _ _ | (refine below_gr' ?_ (by first | omega | (simp [go_sem] <;> omega))) | (refine Below.alloc ?_ (by first | omega | (simp [go_sem] <;> omega)) _) | refine Below.drew ?_ | (refine Below.setCell ?_ (by first | omega | (simp [go_sem] <;> omega)) _)))⟩

set_option maxHeartbeats 4000000 in
theorem off002 (px py ax ay bx by' : Int) (hf : formB 1048576 [(px, py), (ax, ay), (bx, by')] = true) (hH : holdB ax ay bx by' px py = false) (hx : ¬ ax = bx) (hs : ¬ by' < ay) (c1 : ay ≤ py) (c2 : by' ≤ py) (c : crossB ax ay bx by' px py = false) (w : World) :
    Calls Try.prog 8 #[ptV px py, ptV ax ay, ptV bx by'] w fun e w' => e = .returned (.bool true) ∧ Below w.heap.size w w' := by
  have hd := Lib.hid (fun ty w b cap hb => dThree px py ax ay bx by' ty w b cap hb)
  rw [hf] at hd
  obtain ⟨k1, k2, k3, k4, k5, k6⟩ := w20_three hf
  have hh := Lib.hid (fun w => hasPt_any k3 k4 k5 k6 k1 k2 w)
  rw [hH] at hh
  have hr := Lib.hid (fun w => ray_flI k1 k2 k3 k4 k5 k6 w)
  rw [hH, c] at hr
  clear c
  have h1 := Lib.hid (fun w => lxy_any px py w)
  have h2 := Lib.hid (fun w => lxy_any ax ay w)
  have h3 := Lib.hid (fun w => lxy_any bx by' w)
  have ht := Lib.hid trivial
  clear hf hH k1 k2 k3 k4 k5 k6
  unfold ptV at *
  go_enter Try.func8, Try.ntmps8
  go_wp2_with (first | (go_at_call 31; refine (hd.out _ _ _ _ (by simp)).mono ?_; rintro e w' ⟨rfl, hq⟩; obtain ⟨q, rfl⟩ := gr_of_below hq; clear hq) | (go_at_call 34; refine (hh.out _).mono ?_; rintro e w' ⟨rfl, hq⟩; obtain ⟨q, rfl⟩ := gr_of_below hq; clear hq) | (go_at_call 35; refine (ht.out _).mono ?_; rintro e w' ⟨rfl, hq⟩; obtain ⟨q, rfl⟩ := gr_of_below hq; clear hq))
  refine wp_region_gr' (by kernel_rfl) (by kernel_rfl) ?_
  repeat (first | go_big_quiet_step (first | with_reducible exact Calls.gr_of (h1.out _) | with_reducible exact Calls.gr_of (h2.out _) | with_reducible exact Calls.gr_of (h3.out _) | with_reducible exact Calls.gr_of (hr.out _)) | quiet_step (first | with_reducible exact Calls.gr_of (h1.out _) | with_reducible exact Calls.gr_of (h2.out _) | with_reducible exact Calls.gr_of (h3.out _) | with_reducible exact Calls.gr_of (hr.out _)))
  refine wpQuiet_nil ?_
  intro _ hw'
  obtain ⟨q, hw''⟩ := hw'
  subst hw''
  go_wp2_with (first | (go_at_call 31; refine (hd.out _ _ _ _ (by simp)).mono ?_; rintro e w' ⟨rfl, hq⟩; obtain ⟨q, rfl⟩ := gr_of_below hq; clear hq) | (go_at_call 34; refine (hh.out _).mono ?_; rintro e w' ⟨rfl, hq⟩; obtain ⟨q, rfl⟩ := gr_of_below hq; clear hq) | (go_at_call 35; refine (ht.out _).mono ?_; rintro e w' ⟨rfl, hq⟩; obtain ⟨q, rfl⟩ := gr_of_below hq; clear hq))
  go_region
  all_goals
    go_wp2_with (first | (go_at_call 31; refine (hd.out _ _ _ _ (by simp)).mono ?_; rintro e w' ⟨rfl, hq⟩; obtain ⟨q, rfl⟩ := gr_of_below hq; clear hq) | (go_at_call 34; refine (hh.out _).mono ?_; rintro e w' ⟨rfl, hq⟩; obtain ⟨q, rfl⟩ := gr_of_below hq; clear hq) | (go_at_call 35; refine (ht.out _).mono ?_; rintro e w' ⟨rfl, hq⟩; obtain ⟨q, rfl⟩ := gr_of_below hq; clear hq))
    go_ret
    exact ⟨by first | rfl | simp, (by repeat (first | exact Below.refl _ _ | (refine below_gr' ?_ (by first | omega | (simp [go_sem] <;> omega))) | (refine Below.alloc ?_ (by first | omega | (simp [go_sem] <;> omega)) _) | refine Below.drew ?_ | (refine Below.setCell ?_ (by first | omega | (simp [go_sem] <;> omega)) _)))⟩

set_option maxHeartbeats 4000000 in
theorem off003 (px py ax ay bx by' : Int) (hf : formB 1048576 [(px, py), (ax, ay), (bx, by')] = true) (hH : holdB ax ay bx by' px py = false) (hx : ¬ ax = bx) (hs : ¬ by' < ay) (c1 : ay ≤ py) (c2 : py < by') (c : crossB ax ay bx by' px py = decide (turn3 ax ay bx by' px py < 0)) (w : World) :
    Calls Try.prog 8 #[ptV px py, ptV ax ay, ptV bx by'] w fun e w' => e = .returned (.bool true) ∧ Below w.heap.size w w' := by
  have hd := Lib.hid (fun ty w b cap hb => dThree px py ax ay bx by' ty w b cap hb)
  rw [hf] at hd
  obtain ⟨k1, k2, k3, k4, k5, k6⟩ := w20_three hf
  have hh := Lib.hid (fun w => hasPt_any k3 k4 k5 k6 k1 k2 w)
  rw [hH] at hh
  have hr := Lib.hid (fun w => ray_flI k1 k2 k3 k4 k5 k6 w)
  rw [hH, c] at hr
  clear c
  have h1 := Lib.hid (fun w => lxy_any px py w)
  have h2 := Lib.hid (fun w => lxy_any ax ay w)
  have h3 := Lib.hid (fun w => lxy_any bx by' w)
  have ht := Lib.hid (fun w => turn_any k3 k4 k5 k6 k1 k2 w)
  generalize turn3 ax ay bx by' px py = T at ht hr
  obtain ⟨C, hC⟩ : ∃ C, C = decide (T < 0) := ⟨_, rfl⟩
  rw [← hC] at hr
  replace hC := Lib.hid hC
  clear hf hH k1 k2 k3 k4 k5 k6
  unfold ptV at *
  go_enter Try.func8, Try.ntmps8
  go_wp2_with (first | (go_at_call 31; refine (hd.out _ _ _ _ (by simp)).mono ?_; rintro e w' ⟨rfl, hq⟩; obtain ⟨q, rfl⟩ := gr_of_below hq; clear hq) | (go_at_call 34; refine (hh.out _).mono ?_; rintro e w' ⟨rfl, hq⟩; obtain ⟨q, rfl⟩ := gr_of_below hq; clear hq) | (go_at_call 35; refine (ht.out _).mono ?_; rintro e w' ⟨rfl, hq⟩; obtain ⟨q, rfl⟩ := gr_of_below hq; clear hq))
  refine wp_region_gr' (by kernel_rfl) (by kernel_rfl) ?_
  repeat (first | go_big_quiet_step (first | with_reducible exact Calls.gr_of (h1.out _) | with_reducible exact Calls.gr_of (h2.out _) | with_reducible exact Calls.gr_of (h3.out _) | with_reducible exact Calls.gr_of (hr.out _)) | quiet_step (first | with_reducible exact Calls.gr_of (h1.out _) | with_reducible exact Calls.gr_of (h2.out _) | with_reducible exact Calls.gr_of (h3.out _) | with_reducible exact Calls.gr_of (hr.out _)))
  refine wpQuiet_nil ?_
  intro _ hw'
  obtain ⟨q, hw''⟩ := hw'
  subst hw''
  go_wp2_with (first | (go_at_call 31; refine (hd.out _ _ _ _ (by simp)).mono ?_; rintro e w' ⟨rfl, hq⟩; obtain ⟨q, rfl⟩ := gr_of_below hq; clear hq) | (go_at_call 34; refine (hh.out _).mono ?_; rintro e w' ⟨rfl, hq⟩; obtain ⟨q, rfl⟩ := gr_of_below hq; clear hq) | (go_at_call 35; refine (ht.out _).mono ?_; rintro e w' ⟨rfl, hq⟩; obtain ⟨q, rfl⟩ := gr_of_below hq; clear hq))
  go_region
  all_goals
    go_wp2_with (first | (go_at_call 31; refine (hd.out _ _ _ _ (by simp)).mono ?_; rintro e w' ⟨rfl, hq⟩; obtain ⟨q, rfl⟩ := gr_of_below hq; clear hq) | (go_at_call 34; refine (hh.out _).mono ?_; rintro e w' ⟨rfl, hq⟩; obtain ⟨q, rfl⟩ := gr_of_below hq; clear hq) | (go_at_call 35; refine (ht.out _).mono ?_; rintro e w' ⟨rfl, hq⟩; obtain ⟨q, rfl⟩ := gr_of_below hq; clear hq))
    go_ret
    exact ⟨by first | rfl | (rw [hC.out]; simp), (by repeat (first | exact Below.refl _ _ | (refine below_gr' ?_ (by first | omega | (simp [go_sem] <;> omega))) | (refine Below.alloc ?_ (by first | omega | (simp [go_sem] <;> omega)) _) | refine Below.drew ?_ | (refine Below.setCell ?_ (by first | omega | (simp [go_sem] <;> omega)) _)))⟩

set_option maxHeartbeats 4000000 in
theorem off011 (px py ax ay bx by' : Int) (hf : formB 1048576 [(px, py), (ax, ay), (bx, by')] = true) (hH : holdB ax ay bx by' px py = false) (hx : ¬ ax = bx) (hs : by' < ay) (c1 : py < by') (c : crossB ax ay bx by' px py = false) (w : World) :
    Calls Try.prog 8 #[ptV px py, ptV ax ay, ptV bx by'] w fun e w' => e = .returned (.bool true) ∧ Below w.heap.size w w' := by
  have hd := Lib.hid (fun ty w b cap hb => dThree px py ax ay bx by' ty w b cap hb)
  rw [hf] at hd
  obtain ⟨k1, k2, k3, k4, k5, k6⟩ := w20_three hf
  have hh := Lib.hid (fun w => hasPt_any k3 k4 k5 k6 k1 k2 w)
  rw [hH] at hh
  have hr := Lib.hid (fun w => ray_flI k1 k2 k3 k4 k5 k6 w)
  rw [hH, c] at hr
  clear c
  have h1 := Lib.hid (fun w => lxy_any px py w)
  have h2 := Lib.hid (fun w => lxy_any ax ay w)
  have h3 := Lib.hid (fun w => lxy_any bx by' w)
  have ht := Lib.hid trivial
  clear hf hH k1 k2 k3 k4 k5 k6
  unfold ptV at *
  go_enter Try.func8, Try.ntmps8
  go_wp2_with (first | (go_at_call 31; refine (hd.out _ _ _ _ (by simp)).mono ?_; rintro e w' ⟨rfl, hq⟩; obtain ⟨q, rfl⟩ := gr_of_below hq; clear hq) | (go_at_call 34; refine (hh.out _).mono ?_; rintro e w' ⟨rfl, hq⟩; obtain ⟨q, rfl⟩ := gr_of_below hq; clear hq) | (go_at_call 35; refine (ht.out _).mono ?_; rintro e w' ⟨rfl, hq⟩; obtain ⟨q, rfl⟩ := gr_of_below hq; clear hq))
  refine wp_region_gr' (by kernel_rfl) (by kernel_rfl) ?_
  repeat (first | go_big_quiet_step (first | with_reducible exact Calls.gr_of (h1.out _) | with_reducible exact Calls.gr_of (h2.out _) | with_reducible exact Calls.gr_of (h3.out _) | with_reducible exact Calls.gr_of (hr.out _)) | quiet_step (first | with_reducible exact Calls.gr_of (h1.out _) | with_reducible exact Calls.gr_of (h2.out _) | with_reducible exact Calls.gr_of (h3.out _) | with_reducible exact Calls.gr_of (hr.out _)))
  refine wpQuiet_nil ?_
  intro _ hw'
  obtain ⟨q, hw''⟩ := hw'
  subst hw''
  go_wp2_with (first | (go_at_call 31; refine (hd.out _ _ _ _ (by simp)).mono ?_; rintro e w' ⟨rfl, hq⟩; obtain ⟨q, rfl⟩ := gr_of_below hq; clear hq) | (go_at_call 34; refine (hh.out _).mono ?_; rintro e w' ⟨rfl, hq⟩; obtain ⟨q, rfl⟩ := gr_of_below hq; clear hq) | (go_at_call 35; refine (ht.out _).mono ?_; rintro e w' ⟨rfl, hq⟩; obtain ⟨q, rfl⟩ := gr_of_below hq; clear hq))
  go_region
  all_goals
    go_wp2_with (first | (go_at_call 31; refine (hd.out _ _ _ _ (by simp)).mono ?_; rintro e w' ⟨rfl, hq⟩; obtain ⟨q, rfl⟩ := gr_of_below hq; clear hq) | (go_at_call 34; refine (hh.out _).mono ?_; rintro e w' ⟨rfl, hq⟩; obtain ⟨q, rfl⟩ := gr_of_below hq; clear hq) | (go_at_call 35; refine (ht.out _).mono ?_; rintro e w' ⟨rfl, hq⟩; obtain ⟨q, rfl⟩ := gr_of_below hq; clear hq))
    go_region
    go_wp2_with (first | (go_at_call 31; refine (hd.out _ _ _ _ (by simp)).mono ?_; rintro e w' ⟨rfl, hq⟩; obtain ⟨q, rfl⟩ := gr_of_below hq; clear hq) | (go_at_call 34; refine (hh.out _).mono ?_; rintro e w' ⟨rfl, hq⟩; obtain ⟨q, rfl⟩ := gr_of_below hq; clear hq) | (go_at_call 35; refine (ht.out _).mono ?_; rintro e w' ⟨rfl, hq⟩; obtain ⟨q, rfl⟩ := gr_of_below hq; clear hq))
    go_ret
    exact ⟨by first | rfl | simp, (by repeat (first | exact Below.refl _ _ | (refine below_gr' ?_ (by first | omega | (simp [go_sem] <;> omega))) | (refine Below.alloc ?_ (by first | omega | (simp [go_sem] <;> omega)) _) | refine Below.drew ?_ | (refine Below.setCell ?_ (by first | omega | (simp [go_sem] <;> omega)) _)))⟩

set_option maxHeartbeats 4000000 in
theorem off012 (px py ax ay bx by' : Int) (hf : formB 1048576 [(px, py), (ax, ay), (bx, by')] = true) (hH : holdB ax ay bx by' px py = false) (hx : ¬ ax = bx) (hs : by' < ay) (c1 : by' ≤ py) (c2 : ay ≤ py) (c : crossB ax ay bx by' px py = false) (w : World) :
    Calls Try.prog 8 #[ptV px py, ptV ax ay, ptV bx by'] w fun e w' => e = .returned (.bool true) ∧ Below w.heap.size w w' := by
  have hd := Lib.hid (fun ty w b cap hb => dThree px py ax ay bx by' ty w b cap hb)
  rw [hf] at hd
  obtain ⟨k1, k2, k3, k4, k5, k6⟩ := w20_three hf
  have hh := Lib.hid (fun w => hasPt_any k3 k4 k5 k6 k1 k2 w)
  rw [hH] at hh
  have hr := Lib.hid (fun w => ray_flI k1 k2 k3 k4 k5 k6 w)
  rw [hH, c] at hr
  clear c
  have h1 := Lib.hid (fun w => lxy_any px py w)
  have h2 := Lib.hid (fun w => lxy_any ax ay w)
  have h3 := Lib.hid (fun w => lxy_any bx by' w)
  have ht := Lib.hid trivial
  clear hf hH k1 k2 k3 k4 k5 k6
  unfold ptV at *
  go_enter Try.func8, Try.ntmps8
  go_wp2_with (first | (go_at_call 31; refine (hd.out _ _ _ _ (by simp)).mono ?_; rintro e w' ⟨rfl, hq⟩; obtain ⟨q, rfl⟩ := gr_of_below hq; clear hq) | (go_at_call 34; refine (hh.out _).mono ?_; rintro e w' ⟨rfl, hq⟩; obtain ⟨q, rfl⟩ := gr_of_below hq; clear hq) | (go_at_call 35; refine (ht.out _).mono ?_; rintro e w' ⟨rfl, hq⟩; obtain ⟨q, rfl⟩ := gr_of_below hq; clear hq))
  refine wp_region_gr' (by kernel_rfl) (by kernel_rfl) ?_
  repeat (first | go_big_quiet_step (first | with_reducible exact Calls.gr_of (h1.out _) | with_reducible exact Calls.gr_of (h2.out _) | with_reducible exact Calls.gr_of (h3.out _) | with_reducible exact Calls.gr_of (hr.out _)) | quiet_step (first | with_reducible exact Calls.gr_of (h1.out _) | with_reducible exact Calls.gr_of (h2.out _) | with_reducible exact Calls.gr_of (h3.out _) | with_reducible exact Calls.gr_of (hr.out _)))
  refine wpQuiet_nil ?_
  intro _ hw'
  obtain ⟨q, hw''⟩ := hw'
  subst hw''
  go_wp2_with (first | (go_at_call 31; refine (hd.out _ _ _ _ (by simp)).mono ?_; rintro e w' ⟨rfl, hq⟩; obtain ⟨q, rfl⟩ := gr_of_below hq; clear hq) | (go_at_call 34; refine (hh.out _).mono ?_; rintro e w' ⟨rfl, hq⟩; obtain ⟨q, rfl⟩ := gr_of_below hq; clear hq) | (go_at_call 35; refine (ht.out _).mono ?_; rintro e w' ⟨rfl, hq⟩; obtain ⟨q, rfl⟩ := gr_of_below hq; clear hq))
  go_region
  all_goals
    go_wp2_with (first | (go_at_call 31; refine (hd.out _ _ _ _ (by simp)).mono ?_; rintro e w' ⟨rfl, hq⟩; obtain ⟨q, rfl⟩ := gr_of_below hq; clear hq) | (go_at_call 34; refine (hh.out _).mono ?_; rintro e w' ⟨rfl, hq⟩; obtain ⟨q, rfl⟩ := gr_of_below hq; clear hq) | (go_at_call 35; refine (ht.out _).mono ?_; rintro e w' ⟨rfl, hq⟩; obtain ⟨q, rfl⟩ := gr_of_below hq; clear hq))
    go_region
    go_wp2_with (first | (go_at_call 31; refine (hd.out _ _ _ _ (by simp)).mono ?_; rintro e w' ⟨rfl, hq⟩; obtain ⟨q, rfl⟩ := gr_of_below hq; clear hq) | (go_at_call 34; refine (hh.out _).mono ?_; rintro e w' ⟨rfl, hq⟩; obtain ⟨q, rfl⟩ := gr_of_below hq; clear hq) | (go_at_call 35; refine (ht.out _).mono ?_; rintro e w' ⟨rfl, hq⟩; obtain ⟨q, rfl⟩ := gr_of_below hq; clear hq))
    go_ret
    exact ⟨by first | rfl | simp, (by repeat (first | exact Below.refl _ _ | (refine below_gr' ?_ (by first | omega | (simp [go_sem] <;> omega))) | (refine Below.alloc ?_ (by first | omega | (simp [go_sem] <;> omega)) _) | refine Below.drew ?_ | (refine Below.setCell ?_ (by first | omega | (simp [go_sem] <;> omega)) _)))⟩

set_option maxHeartbeats 4000000 in
theorem off013 (px py ax ay bx by' : Int) (hf : formB 1048576 [(px, py), (ax, ay), (bx, by')] = true) (hH : holdB ax ay bx by' px py = false) (hx : ¬ ax = bx) (hs : by' < ay) (c1 : by' ≤ py) (c2 : py < ay) (c : crossB ax ay bx by' px py = decide (turn3 bx by' ax ay px py < 0)) (w : World) :
    Calls Try.prog 8 #[ptV px py, ptV ax ay, ptV bx by'] w fun e w' => e = .returned (.bool true) ∧ Below w.heap.size w w' := by
  have hd := Lib.hid (fun ty w b cap hb => dThree px py ax ay bx by' ty w b cap hb)
  rw [hf] at hd
  obtain ⟨k1, k2, k3, k4, k5, k6⟩ := w20_three hf
  have hh := Lib.hid (fun w => hasPt_any k3 k4 k5 k6 k1 k2 w)
  rw [hH] at hh
  have hr := Lib.hid (fun w => ray_flI k1 k2 k3 k4 k5 k6 w)
  rw [hH, c] at hr
  clear c
  have h1 := Lib.hid (fun w => lxy_any px py w)
  have h2 := Lib.hid (fun w => lxy_any ax ay w)
  have h3 := Lib.hid (fun w => lxy_any bx by' w)
  have ht := Lib.hid (fun w => turn_any k5 k6 k3 k4 k1 k2 w)
  generalize turn3 bx by' ax ay px py = T at ht hr
  obtain ⟨C, hC⟩ : ∃ C, C = decide (T < 0) := ⟨_, rfl⟩
  rw [← hC] at hr
  replace hC := Lib.hid hC
  clear hf hH k1 k2 k3 k4 k5 k6
  unfold ptV at *
  go_enter Try.func8, Try.ntmps8
  go_wp2_with (first | (go_at_call 31; refine (hd.out _ _ _ _ (by simp)).mono ?_; rintro e w' ⟨rfl, hq⟩; obtain ⟨q, rfl⟩ := gr_of_below hq; clear hq) | (go_at_call 34; refine (hh.out _).mono ?_; rintro e w' ⟨rfl, hq⟩; obtain ⟨q, rfl⟩ := gr_of_below hq; clear hq) | (go_at_call 35; refine (ht.out _).mono ?_; rintro e w' ⟨rfl, hq⟩; obtain ⟨q, rfl⟩ := gr_of_below hq; clear hq))
  refine wp_region_gr' (by kernel_rfl) (by kernel_rfl) ?_
  repeat (first | go_big_quiet_step (first | with_reducible exact Calls.gr_of (h1.out _) | with_reducible exact Calls.gr_of (h2.out _) | with_reducible exact Calls.gr_of (h3.out _) | with_reducible exact Calls.gr_of (hr.out _)) | quiet_step (first | with_reducible exact Calls.gr_of (h1.out _) | with_reducible exact Calls.gr_of (h2.out _) | with_reducible exact Calls.gr_of (h3.out _) | with_reducible exact Calls.gr_of (hr.out _)))
  refine wpQuiet_nil ?_
  intro _ hw'
  obtain ⟨q, hw''⟩ := hw'
  subst hw''
  go_wp2_with (first | (go_at_call 31; refine (hd.out _ _ _ _ (by simp)).mono ?_; rintro e w' ⟨rfl, hq⟩; obtain ⟨q, rfl⟩ := gr_of_below hq; clear hq) | (go_at_call 34; refine (hh.out _).mono ?_; rintro e w' ⟨rfl, hq⟩; obtain ⟨q, rfl⟩ := gr_of_below hq; clear hq) | (go_at_call 35; refine (ht.out _).mono ?_; rintro e w' ⟨rfl, hq⟩; obtain ⟨q, rfl⟩ := gr_of_below hq; clear hq))
  go_region
  all_goals
    go_wp2_with (first | (go_at_call 31; refine (hd.out _ _ _ _ (by simp)).mono ?_; rintro e w' ⟨rfl, hq⟩; obtain ⟨q, rfl⟩ := gr_of_below hq; clear hq) | (go_at_call 34; refine (hh.out _).mono ?_; rintro e w' ⟨rfl, hq⟩; obtain ⟨q, rfl⟩ := gr_of_below hq; clear hq) | (go_at_call 35; refine (ht.out _).mono ?_; rintro e w' ⟨rfl, hq⟩; obtain ⟨q, rfl⟩ := gr_of_below hq; clear hq))
    go_region
    go_wp2_with (first | (go_at_call 31; refine (hd.out _ _ _ _ (by simp)).mono ?_; rintro e w' ⟨rfl, hq⟩; obtain ⟨q, rfl⟩ := gr_of_below hq; clear hq) | (go_at_call 34; refine (hh.out _).mono ?_; rintro e w' ⟨rfl, hq⟩; obtain ⟨q, rfl⟩ := gr_of_below hq; clear hq) | (go_at_call 35; refine (ht.out _).mono ?_; rintro e w' ⟨rfl, hq⟩; obtain ⟨q, rfl⟩ := gr_of_below hq; clear hq))
    go_ret
    exact ⟨by first | rfl | (rw [hC.out]; simp), (by repeat (first | exact Below.refl _ _ | (refine below_gr' ?_ (by first | omega | (simp [go_sem] <;> omega))) | (refine Below.alloc ?_ (by first | omega | (simp [go_sem] <;> omega)) _) | refine Below.drew ?_ | (refine Below.setCell ?_ (by first | omega | (simp [go_sem] <;> omega)) _)))⟩

set_option maxHeartbeats 4000000 in
theorem off101 (px py ax ay by' : Int) (hf : formB 1048576 [(px, py), (ax, ay), (ax, by')] = true) (hH : holdB ax ay ax by' px py = false) (hy : ¬ ay = by') (hs : ¬ by' < ay) (c1 : py < ay) (c : crossB ax ay ax by' px py = false) (w : World) :
    Calls Try.prog 8 #[ptV px py, ptV ax ay, ptV ax by'] w fun e w' => e = .returned (.bool true) ∧ Below w.heap.size w w' := by
  have hd := Lib.hid (fun ty w b cap hb => dThree px py ax ay ax by' ty w b cap hb)
  rw [hf] at hd
  obtain ⟨k1, k2, k3, k4, k5, k6⟩ := w20_three hf
  have hh := Lib.hid (fun w => hasPt_any k3 k4 k5 k6 k1 k2 w)
  rw [hH] at hh
  have hr := Lib.hid (fun w => ray_flI k1 k2 k3 k4 k5 k6 w)
  rw [hH, c] at hr
  clear c
  have h1 := Lib.hid (fun w => lxy_any px py w)
  have h2 := Lib.hid (fun w => lxy_any ax ay w)
  have h3 := Lib.hid (fun w => lxy_any ax by' w)
  have ht := Lib.hid trivial
  clear hf hH k1 k2 k3 k4 k5 k6
  unfold ptV at *
  go_enter Try.func8, Try.ntmps8
  go_wp2_with (first | (go_at_call 31; refine (hd.out _ _ _ _ (by simp)).mono ?_; rintro e w' ⟨rfl, hq⟩; obtain ⟨q, rfl⟩ := gr_of_below hq; clear hq) | (go_at_call 34; refine (hh.out _).mono ?_; rintro e w' ⟨rfl, hq⟩; obtain ⟨q, rfl⟩ := gr_of_below hq; clear hq) | (go_at_call 35; refine (ht.out _).mono ?_; rintro e w' ⟨rfl, hq⟩; obtain ⟨q, rfl⟩ := gr_of_below hq; clear hq))
  refine wp_region_gr' (by kernel_rfl) (by kernel_rfl) ?_
  repeat (first | go_big_quiet_step (first | with_reducible exact Calls.gr_of (h1.out _) | with_reducible exact Calls.gr_of (h2.out _) | with_reducible exact Calls.gr_of (h3.out _) | with_reducible exact Calls.gr_of (hr.out _)) | quiet_step (first | with_reducible exact Calls.gr_of (h1.out _) | with_reducible exact Calls.gr_of (h2.out _) | with_reducible exact Calls.gr_of (h3.out _) | with_reducible exact Calls.gr_of (hr.out _)))
  refine wpQuiet_nil ?_
  intro _ hw'
  obtain ⟨q, hw''⟩ := hw'
  subst hw''
  go_wp2_with (first | (go_at_call 31; refine (hd.out _ _ _ _ (by simp)).mono ?_; rintro e w' ⟨rfl, hq⟩; obtain ⟨q, rfl⟩ := gr_of_below hq; clear hq) | (go_at_call 34; refine (hh.out _).mono ?_; rintro e w' ⟨rfl, hq⟩; obtain ⟨q, rfl⟩ := gr_of_below hq; clear hq) | (go_at_call 35; refine (ht.out _).mono ?_; rintro e w' ⟨rfl, hq⟩; obtain ⟨q, rfl⟩ := gr_of_below hq; clear hq))
  go_region
  all_goals
    go_wp2_with (first | (go_at_call 31; refine (hd.out _ _ _ _ (by simp)).mono ?_; rintro e w' ⟨rfl, hq⟩; obtain ⟨q, rfl⟩ := gr_of_below hq; clear hq) | (go_at_call 34; refine (hh.out _).mono ?_; rintro e w' ⟨rfl, hq⟩; obtain ⟨q, rfl⟩ := gr_of_below hq; clear hq) | (go_at_call 35; refine (ht.out _).mono ?_; rintro e w' ⟨rfl, hq⟩; obtain ⟨q, rfl⟩ := gr_of_below hq; clear hq))
    go_ret
    exact ⟨by first | rfl | simp, (by repeat (first | exact Below.refl _ _ | (refine below_gr' ?_ (by first | omega | (simp [go_sem] <;> omega))) | (refine Below.alloc ?_ (by first | omega | (simp [go_sem] <;> omega)) _) | refine Below.drew ?_ | (refine Below.setCell ?_ (by first | omega | (simp [go_sem] <;> omega)) _)))⟩

set_option maxHeartbeats 4000000 in
theorem off102 (px py ax ay by' : Int) (hf : formB 1048576 [(px, py), (ax, ay), (ax, by')] = true) (hH : holdB ax ay ax by' px py = false) (hy : ¬ ay = by') (hs : ¬ by' < ay) (c1 : ay ≤ py) (c2 : by' ≤ py) (c : crossB ax ay ax by' px py = false) (w : World) :
    Calls Try.prog 8 #[ptV px py, ptV ax ay, ptV ax by'] w fun e w' => e = .returned (.bool true) ∧ Below w.heap.size w w' := by
  have hd := Lib.hid (fun ty w b cap hb => dThree px py ax ay ax by' ty w b cap hb)
  rw [hf] at hd
  obtain ⟨k1, k2, k3, k4, k5, k6⟩ := w20_three hf
  have hh := Lib.hid (fun w => hasPt_any k3 k4 k5 k6 k1 k2 w)
  rw [hH] at hh
  have hr := Lib.hid (fun w => ray_flI k1 k2 k3 k4 k5 k6 w)
  rw [hH, c] at hr
  clear c
  have h1 := Lib.hid (fun w => lxy_any px py w)
  have h2 := Lib.hid (fun w => lxy_any ax ay w)
  have h3 := Lib.hid (fun w => lxy_any ax by' w)
  have ht := Lib.hid trivial
  clear hf hH k1 k2 k3 k4 k5 k6
  unfold ptV at *
  go_enter Try.func8, Try.ntmps8
  go_wp2_with (first | (go_at_call 31; refine (hd.out _ _ _ _ (by simp)).mono ?_; rintro e w' ⟨rfl, hq⟩; obtain ⟨q, rfl⟩ := gr_of_below hq; clear hq) | (go_at_call 34; refine (hh.out _).mono ?_; rintro e w' ⟨rfl, hq⟩; obtain ⟨q, rfl⟩ := gr_of_below hq; clear hq) | (go_at_call 35; refine (ht.out _).mono ?_; rintro e w' ⟨rfl, hq⟩; obtain ⟨q, rfl⟩ := gr_of_below hq; clear hq))
  refine wp_region_gr' (by kernel_rfl) (by kernel_rfl) ?_
  repeat (first | go_big_quiet_step (first | with_reducible exact Calls.gr_of (h1.out _) | with_reducible exact Calls.gr_of (h2.out _) | with_reducible exact Calls.gr_of (h3.out _) | with_reducible exact Calls.gr_of (hr.out _)) | quiet_step (first | with_reducible exact Calls.gr_of (h1.out _) | with_reducible exact Calls.gr_of (h2.out _) | with_reducible exact Calls.gr_of (h3.out _) | with_reducible exact Calls.gr_of (hr.out _)))
  refine wpQuiet_nil ?_
  intro _ hw'
  obtain ⟨q, hw''⟩ := hw'
  subst hw''
  go_wp2_with (first | (go_at_call 31; refine (hd.out _ _ _ _ (by simp)).mono ?_; rintro e w' ⟨rfl, hq⟩; obtain ⟨q, rfl⟩ := gr_of_below hq; clear hq) | (go_at_call 34; refine (hh.out _).mono ?_; rintro e w' ⟨rfl, hq⟩; obtain ⟨q, rfl⟩ := gr_of_below hq; clear hq) | (go_at_call 35; refine (ht.out _).mono ?_; rintro e w' ⟨rfl, hq⟩; obtain ⟨q, rfl⟩ := gr_of_below hq; clear hq))
  go_region
  all_goals
    go_wp2_with (first | (go_at_call 31; refine (hd.out _ _ _ _ (by simp)).mono ?_; rintro e w' ⟨rfl, hq⟩; obtain ⟨q, rfl⟩ := gr_of_below hq; clear hq) | (go_at_call 34; refine (hh.out _).mono ?_; rintro e w' ⟨rfl, hq⟩; obtain ⟨q, rfl⟩ := gr_of_below hq; clear hq) | (go_at_call 35; refine (ht.out _).mono ?_; rintro e w' ⟨rfl, hq⟩; obtain ⟨q, rfl⟩ := gr_of_below hq; clear hq))
    go_ret
    exact ⟨by first | rfl | simp, (by repeat (first | exact Below.refl _ _ | (refine below_gr' ?_ (by first | omega | (simp [go_sem] <;> omega))) | (refine Below.alloc ?_ (by first | omega | (simp [go_sem] <;> omega)) _) | refine Below.drew ?_ | (refine Below.setCell ?_ (by first | omega | (simp [go_sem] <;> omega)) _)))⟩

set_option maxHeartbeats 4000000 in
theorem off103 (px py ax ay by' : Int) (hf : formB 1048576 [(px, py), (ax, ay), (ax, by')] = true) (hH : holdB ax ay ax by' px py = false) (hy : ¬ ay = by') (hs : ¬ by' < ay) (c1 : ay ≤ py) (c2 : py < by') (c : crossB ax ay ax by' px py = decide (turn3 ax ay ax by' px py < 0)) (w : World) :
    Calls Try.prog 8 #[ptV px py, ptV ax ay, ptV ax by'] w fun e w' => e = .returned (.bool true) ∧ Below w.heap.size w w' := by
  have hd := Lib.hid (fun ty w b cap hb => dThree px py ax ay ax by' ty w b cap hb)
  rw [hf] at hd
  obtain ⟨k1, k2, k3, k4, k5, k6⟩ := w20_three hf
  have hh := Lib.hid (fun w => hasPt_any k3 k4 k5 k6 k1 k2 w)
  rw [hH] at hh
  have hr := Lib.hid (fun w => ray_flI k1 k2 k3 k4 k5 k6 w)
  rw [hH, c] at hr
  clear c
  have h1 := Lib.hid (fun w => lxy_any px py w)
  have h2 := Lib.hid (fun w => lxy_any ax ay w)
  have h3 := Lib.hid (fun w => lxy_any ax by' w)
  have ht := Lib.hid (fun w => turn_any k3 k4 k5 k6 k1 k2 w)
  generalize turn3 ax ay ax by' px py = T at ht hr
  obtain ⟨C, hC⟩ : ∃ C, C = decide (T < 0) := ⟨_, rfl⟩
  rw [← hC] at hr
  replace hC := Lib.hid hC
  clear hf hH k1 k2 k3 k4 k5 k6
  unfold ptV at *
  go_enter Try.func8, Try.ntmps8
  go_wp2_with (first | (go_at_call 31; refine (hd.out _ _ _ _ (by simp)).mono ?_; rintro e w' ⟨rfl, hq⟩; obtain ⟨q, rfl⟩ := gr_of_below hq; clear hq) | (go_at_call 34; refine (hh.out _).mono ?_; rintro e w' ⟨rfl, hq⟩; obtain ⟨q, rfl⟩ := gr_of_below hq; clear hq) | (go_at_call 35; refine (ht.out _).mono ?_; rintro e w' ⟨rfl, hq⟩; obtain ⟨q, rfl⟩ := gr_of_below hq; clear hq))
  refine wp_region_gr' (by kernel_rfl) (by kernel_rfl) ?_
  repeat (first | go_big_quiet_step (first | with_reducible exact Calls.gr_of (h1.out _) | with_reducible exact Calls.gr_of (h2.out _) | with_reducible exact Calls.gr_of (h3.out _) | with_reducible exact Calls.gr_of (hr.out _)) | quiet_step (first | with_reducible exact Calls.gr_of (h1.out _) | with_reducible exact Calls.gr_of (h2.out _) | with_reducible exact Calls.gr_of (h3.out _) | with_reducible exact Calls.gr_of (hr.out _)))
  refine wpQuiet_nil ?_
  intro _ hw'
  obtain ⟨q, hw''⟩ := hw'
  subst hw''
  go_wp2_with (first | (go_at_call 31; refine (hd.out _ _ _ _ (by simp)).mono ?_; rintro e w' ⟨rfl, hq⟩; obtain ⟨q, rfl⟩ := gr_of_below hq; clear hq) | (go_at_call 34; refine (hh.out _).mono ?_; rintro e w' ⟨rfl, hq⟩; obtain ⟨q, rfl⟩ := gr_of_below hq; clear hq) | (go_at_call 35; refine (ht.out _).mono ?_; rintro e w' ⟨rfl, hq⟩; obtain ⟨q, rfl⟩ := gr_of_below hq; clear hq))
  go_region
  all_goals
    go_wp2_with (first | (go_at_call 31; refine (hd.out _ _ _ _ (by simp)).mono ?_; rintro e w' ⟨rfl, hq⟩; obtain ⟨q, rfl⟩ := gr_of_below hq; clear hq) | (go_at_call 34; refine (hh.out _).mono ?_; rintro e w' ⟨rfl, hq⟩; obtain ⟨q, rfl⟩ := gr_of_below hq; clear hq) | (go_at_call 35; refine (ht.out _).mono ?_; rintro e w' ⟨rfl, hq⟩; obtain ⟨q, rfl⟩ := gr_of_below hq; clear hq))
    go_ret
    exact ⟨by first | rfl | (rw [hC.out]; simp), (by repeat (first | exact Below.refl _ _ | (refine below_gr' ?_ (by first | omega | (simp [go_sem] <;> omega))) | (refine Below.alloc ?_ (by first | omega | (simp [go_sem] <;> omega)) _) | refine Below.drew ?_ | (refine Below.setCell ?_ (by first | omega | (simp [go_sem] <;> omega)) _)))⟩

set_option maxHeartbeats 4000000 in
theorem off111 (px py ax ay by' : Int) (hf : formB 1048576 [(px, py), (ax, ay), (ax, by')] = true) (hH : holdB ax ay ax by' px py = false) (hy : ¬ ay = by') (hs : by' < ay) (c1 : py < by') (c : crossB ax ay ax by' px py = false) (w : World) :
    Calls Try.prog 8 #[ptV px py, ptV ax ay, ptV ax by'] w fun e w' => e = .returned (.bool true) ∧ Below w.heap.size w w' := by
  have hd := Lib.hid (fun ty w b cap hb => dThree px py ax ay ax by' ty w b cap hb)
  rw [hf] at hd
  obtain ⟨k1, k2, k3, k4, k5, k6⟩ := w20_three hf
  have hh := Lib.hid (fun w => hasPt_any k3 k4 k5 k6 k1 k2 w)
  rw [hH] at hh
  have hr := Lib.hid (fun w => ray_flI k1 k2 k3 k4 k5 k6 w)
  rw [hH, c] at hr
  clear c
  have h1 := Lib.hid (fun w => lxy_any px py w)
  have h2 := Lib.hid (fun w => lxy_any ax ay w)
  have h3 := Lib.hid (fun w => lxy_any ax by' w)
  have ht := Lib.hid trivial
  clear hf hH k1 k2 k3 k4 k5 k6
  unfold ptV at *
  go_enter Try.func8, Try.ntmps8
  go_wp2_with (first | (go_at_call 31; refine (hd.out _ _ _ _ (by simp)).mono ?_; rintro e w' ⟨rfl, hq⟩; obtain ⟨q, rfl⟩ := gr_of_below hq; clear hq) | (go_at_call 34; refine (hh.out _).mono ?_; rintro e w' ⟨rfl, hq⟩; obtain ⟨q, rfl⟩ := gr_of_below hq; clear hq) | (go_at_call 35; refine (ht.out _).mono ?_; rintro e w' ⟨rfl, hq⟩; obtain ⟨q, rfl⟩ := gr_of_below hq; clear hq))
  refine wp_region_gr' (by kernel_rfl) (by kernel_rfl) ?_
  repeat (first | go_big_quiet_step (first | with_reducible exact Calls.gr_of (h1.out _) | with_reducible exact Calls.gr_of (h2.out _) | with_reducible exact Calls.gr_of (h3.out _) | with_reducible exact Calls.gr_of (hr.out _)) | quiet_step (first | with_reducible exact Calls.gr_of (h1.out _) | with_reducible exact Calls.gr_of (h2.out _) | with_reducible exact Calls.gr_of (h3.out _) | with_reducible exact Calls.gr_of (hr.out _)))
  refine wpQuiet_nil ?_
  intro _ hw'
  obtain ⟨q, hw''⟩ := hw'
  subst hw''
  go_wp2_with (first | (go_at_call 31; refine (hd.out _ _ _ _ (by simp)).mono ?_; rintro e w' ⟨rfl, hq⟩; obtain ⟨q, rfl⟩ := gr_of_below hq; clear hq) | (go_at_call 34; refine (hh.out _).mono ?_; rintro e w' ⟨rfl, hq⟩; obtain ⟨q, rfl⟩ := gr_of_below hq; clear hq) | (go_at_call 35; refine (ht.out _).mono ?_; rintro e w' ⟨rfl, hq⟩; obtain ⟨q, rfl⟩ := gr_of_below hq; clear hq))
  go_region
  all_goals
    go_wp2_with (first | (go_at_call 31; refine (hd.out _ _ _ _ (by simp)).mono ?_; rintro e w' ⟨rfl, hq⟩; obtain ⟨q, rfl⟩ := gr_of_below hq; clear hq) | (go_at_call 34; refine (hh.out _).mono ?_; rintro e w' ⟨rfl, hq⟩; obtain ⟨q, rfl⟩ := gr_of_below hq; clear hq) | (go_at_call 35; refine (ht.out _).mono ?_; rintro e w' ⟨rfl, hq⟩; obtain ⟨q, rfl⟩ := gr_of_below hq; clear hq))
    go_region
    go_wp2_with (first | (go_at_call 31; refine (hd.out _ _ _ _ (by simp)).mono ?_; rintro e w' ⟨rfl, hq⟩; obtain ⟨q, rfl⟩ := gr_of_below hq; clear hq) | (go_at_call 34; refine (hh.out _).mono ?_; rintro e w' ⟨rfl, hq⟩; obtain ⟨q, rfl⟩ := gr_of_below hq; clear hq) | (go_at_call 35; refine (ht.out _).mono ?_; rintro e w' ⟨rfl, hq⟩; obtain ⟨q, rfl⟩ := gr_of_below hq; clear hq))
    go_ret
    exact ⟨by first | rfl | simp, (by repeat (first | exact Below.refl _ _ | (refine below_gr' ?_ (by first | omega | (simp [go_sem] <;> omega))) | (refine Below.alloc ?_ (by first | omega | (simp [go_sem] <;> omega)) _) | refine Below.drew ?_ | (refine Below.setCell ?_ (by first | omega | (simp [go_sem] <;> omega)) _)))⟩

set_option maxHeartbeats 4000000 in
theorem off112 (px py ax ay by' : Int) (hf : formB 1048576 [(px, py), (ax, ay), (ax, by')] = true) (hH : holdB ax ay ax by' px py = false) (hy : ¬ ay = by') (hs : by' < ay) (c1 : by' ≤ py) (c2 : ay ≤ py) (c : crossB ax ay ax by' px py = false) (w : World) :
    Calls Try.prog 8 #[ptV px py, ptV ax ay, ptV ax by'] w fun e w' => e = .returned (.bool true) ∧ Below w.heap.size w w' := by
  have hd := Lib.hid (fun ty w b cap hb => dThree px py ax ay ax by' ty w b cap hb)
  rw [hf] at hd
  obtain ⟨k1, k2, k3, k4, k5, k6⟩ := w20_three hf
  have hh := Lib.hid (fun w => hasPt_any k3 k4 k5 k6 k1 k2 w)
  rw [hH] at hh
  have hr := Lib.hid (fun w => ray_flI k1 k2 k3 k4 k5 k6 w)
  rw [hH, c] at hr
  clear c
  have h1 := Lib.hid (fun w => lxy_any px py w)
  have h2 := Lib.hid (fun w => lxy_any ax ay w)
  have h3 := Lib.hid (fun w => lxy_any ax by' w)
  have ht := Lib.hid trivial
  clear hf hH k1 k2 k3 k4 k5 k6
  unfold ptV at *
  go_enter Try.func8, Try.ntmps8
  go_wp2_with (first | (go_at_call 31; refine (hd.out _ _ _ _ (by simp)).mono ?_; rintro e w' ⟨rfl, hq⟩; obtain ⟨q, rfl⟩ := gr_of_below hq; clear hq) | (go_at_call 34; refine (hh.out _).mono ?_; rintro e w' ⟨rfl, hq⟩; obtain ⟨q, rfl⟩ := gr_of_below hq; clear hq) | (go_at_call 35; refine (ht.out _).mono ?_; rintro e w' ⟨rfl, hq⟩; obtain ⟨q, rfl⟩ := gr_of_below hq; clear hq))
  refine wp_region_gr' (by kernel_rfl) (by kernel_rfl) ?_
  repeat (first | go_big_quiet_step (first | with_reducible exact Calls.gr_of (h1.out _) | with_reducible exact Calls.gr_of (h2.out _) | with_reducible exact Calls.gr_of (h3.out _) | with_reducible exact Calls.gr_of (hr.out _)) | quiet_step (first | with_reducible exact Calls.gr_of (h1.out _) | with_reducible exact Calls.gr_of (h2.out _) | with_reducible exact Calls.gr_of (h3.out _) | with_reducible exact Calls.gr_of (hr.out _)))
  refine wpQuiet_nil ?_
  intro _ hw'
  obtain ⟨q, hw''⟩ := hw'
  subst hw''
  go_wp2_with (first | (go_at_call 31; refine (hd.out _ _ _ _ (by simp)).mono ?_; rintro e w' ⟨rfl, hq⟩; obtain ⟨q, rfl⟩ := gr_of_below hq; clear hq) | (go_at_call 34; refine (hh.out _).mono ?_; rintro e w' ⟨rfl, hq⟩; obtain ⟨q, rfl⟩ := gr_of_below hq; clear hq) | (go_at_call 35; refine (ht.out _).mono ?_; rintro e w' ⟨rfl, hq⟩; obtain ⟨q, rfl⟩ := gr_of_below hq; clear hq))
  go_region
  all_goals
    go_wp2_with (first | (go_at_call 31; refine (hd.out _ _ _ _ (by simp)).mono ?_; rintro e w' ⟨rfl, hq⟩; obtain ⟨q, rfl⟩ := gr_of_below hq; clear hq) | (go_at_call 34; refine (hh.out _).mono ?_; rintro e w' ⟨rfl, hq⟩; obtain ⟨q, rfl⟩ := gr_of_below hq; clear hq) | (go_at_call 35; refine (ht.out _).mono ?_; rintro e w' ⟨rfl, hq⟩; obtain ⟨q, rfl⟩ := gr_of_below hq; clear hq))
    go_region
    go_wp2_with (first | (go_at_call 31; refine (hd.out _ _ _ _ (by simp)).mono ?_; rintro e w' ⟨rfl, hq⟩; obtain ⟨q, rfl⟩ := gr_of_below hq; clear hq) | (go_at_call 34; refine (hh.out _).mono ?_; rintro e w' ⟨rfl, hq⟩; obtain ⟨q, rfl⟩ := gr_of_below hq; clear hq) | (go_at_call 35; refine (ht.out _).mono ?_; rintro e w' ⟨rfl, hq⟩; obtain ⟨q, rfl⟩ := gr_of_below hq; clear hq))
    go_ret
    exact ⟨by first | rfl | simp, (by repeat (first | exact Below.refl _ _ | (refine below_gr' ?_ (by first | omega | (simp [go_sem] <;> omega))) | (refine Below.alloc ?_ (by first | omega | (simp [go_sem] <;> omega)) _) | refine Below.drew ?_ | (refine Below.setCell ?_ (by first | omega | (simp [go_sem] <;> omega)) _)))⟩

set_option maxHeartbeats 4000000 in
theorem off113 (px py ax ay by' : Int) (hf : formB 1048576 [(px, py), (ax, ay), (ax, by')] = true) (hH : holdB ax ay ax by' px py = false) (hy : ¬ ay = by') (hs : by' < ay) (c1 : by' ≤ py) (c2 : py < ay) (c : crossB ax ay ax by' px py = decide (turn3 ax by' ax ay px py < 0)) (w : World) :
    Calls Try.prog 8 #[ptV px py, ptV ax ay, ptV ax by'] w fun e w' => e = .returned (.bool true) ∧ Below w.heap.size w w' := by
  have hd := Lib.hid (fun ty w b cap hb => dThree px py ax ay ax by' ty w b cap hb)
  rw [hf] at hd
  obtain ⟨k1, k2, k3, k4, k5, k6⟩ := w20_three hf
  have hh := Lib.hid (fun w => hasPt_any k3 k4 k5 k6 k1 k2 w)
  rw [hH] at hh
  have hr := Lib.hid (fun w => ray_flI k1 k2 k3 k4 k5 k6 w)
  rw [hH, c] at hr
  clear c
  have h1 := Lib.hid (fun w => lxy_any px py w)
  have h2 := Lib.hid (fun w => lxy_any ax ay w)
  have h3 := Lib.hid (fun w => lxy_any ax by' w)
  have ht := Lib.hid (fun w => turn_any k5 k6 k3 k4 k1 k2 w)
  generalize turn3 ax by' ax ay px py = T at ht hr
  obtain ⟨C, hC⟩ : ∃ C, C = decide (T < 0) := ⟨_, rfl⟩
  rw [← hC] at hr
  replace hC := Lib.hid hC
  clear hf hH k1 k2 k3 k4 k5 k6
  unfold ptV at *
  go_enter Try.func8, Try.ntmps8
  go_wp2_with (first | (go_at_call 31; refine (hd.out _ _ _ _ (by simp)).mono ?_; rintro e w' ⟨rfl, hq⟩; obtain ⟨q, rfl⟩ := gr_of_below hq; clear hq) | (go_at_call 34; refine (hh.out _).mono ?_; rintro e w' ⟨rfl, hq⟩; obtain ⟨q, rfl⟩ := gr_of_below hq; clear hq) | (go_at_call 35; refine (ht.out _).mono ?_; rintro e w' ⟨rfl, hq⟩; obtain ⟨q, rfl⟩ := gr_of_below hq; clear hq))
  refine wp_region_gr' (by kernel_rfl) (by kernel_rfl) ?_
  repeat (first | go_big_quiet_step (first | with_reducible exact Calls.gr_of (h1.out _) | with_reducible exact Calls.gr_of (h2.out _) | with_reducible exact Calls.gr_of (h3.out _) | with_reducible exact Calls.gr_of (hr.out _)) | quiet_step (first | with_reducible exact Calls.gr_of (h1.out _) | with_reducible exact Calls.gr_of (h2.out _) | with_reducible exact Calls.gr_of (h3.out _) | with_reducible exact Calls.gr_of (hr.out _)))
  refine wpQuiet_nil ?_
  intro _ hw'
  obtain ⟨q, hw''⟩ := hw'
  subst hw''
  go_wp2_with (first | (go_at_call 31; refine (hd.out _ _ _ _ (by simp)).mono ?_; rintro e w' ⟨rfl, hq⟩; obtain ⟨q, rfl⟩ := gr_of_below hq; clear hq) | (go_at_call 34; refine (hh.out _).mono ?_; rintro e w' ⟨rfl, hq⟩; obtain ⟨q, rfl⟩ := gr_of_below hq; clear hq) | (go_at_call 35; refine (ht.out _).mono ?_; rintro e w' ⟨rfl, hq⟩; obtain ⟨q, rfl⟩ := gr_of_below hq; clear hq))
  go_region
  all_goals
    go_wp2_with (first | (go_at_call 31; refine (hd.out _ _ _ _ (by simp)).mono ?_; rintro e w' ⟨rfl, hq⟩; obtain ⟨q, rfl⟩ := gr_of_below hq; clear hq) | (go_at_call 34; refine (hh.out _).mono ?_; rintro e w' ⟨rfl, hq⟩; obtain ⟨q, rfl⟩ := gr_of_below hq; clear hq) | (go_at_call 35; refine (ht.out _).mono ?_; rintro e w' ⟨rfl, hq⟩; obtain ⟨q, rfl⟩ := gr_of_below hq; clear hq))
    go_region
    go_wp2_with (first | (go_at_call 31; refine (hd.out _ _ _ _ (by simp)).mono ?_; rintro e w' ⟨rfl, hq⟩; obtain ⟨q, rfl⟩ := gr_of_below hq; clear hq) | (go_at_call 34; refine (hh.out _).mono ?_; rintro e w' ⟨rfl, hq⟩; obtain ⟨q, rfl⟩ := gr_of_below hq; clear hq) | (go_at_call 35; refine (ht.out _).mono ?_; rintro e w' ⟨rfl, hq⟩; obtain ⟨q, rfl⟩ := gr_of_below hq; clear hq))
    go_ret
    exact ⟨by first | rfl | (rw [hC.out]; simp), (by repeat (first | exact Below.refl _ _ | (refine below_gr' ?_ (by first | omega | (simp [go_sem] <;> omega))) | (refine Below.alloc ?_ (by first | omega | (simp [go_sem] <;> omega)) _) | refine Below.drew ?_ | (refine Below.setCell ?_ (by first | omega | (simp [go_sem] <;> omega)) _)))⟩
end Go.Proofs.Ytpphfoggjejpiaa
