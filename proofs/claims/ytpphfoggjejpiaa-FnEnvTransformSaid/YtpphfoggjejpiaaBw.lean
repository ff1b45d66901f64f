/-
  The walks over boxes, continued: the thin package; the law's own tests. Conditions: as each theorem states them.
-/
import Derived.Test.YtpphfoggjejpiaaBz
namespace Go.Proofs.Ytpphfoggjejpiaa
open Go.RowKit Fl Go.Sort

theorem doorDist_any {a0 b0 a1 b1 c0 d0 c1 d1 : Nat} {A0 B0 A1 B1 C0 D0 C1 D1 : Int} (ha0 : Sm a0 A0) (hb0 : Sm b0 B0) (ha1 : Sm a1 A1) (hb1 : Sm b1 B1) (hc0 : Sm c0 C0) (hd0 : Sm d0 D0) (hc1 : Sm c1 C1) (hd1 : Sm d1 D1) (w : World) :
    Calls Try.prog 70 #[boxV a0 b0 a1 b1, boxV c0 d0 c1 d1] w fun e w' => e = .returned (.float .f64 (distR a0 b0 a1 b1 c0 d0 c1 d1)) ∧ Below w.heap.size w w' := by
  go_enter Try.func70, Try.ntmps70
  unfold boxV
  go_wp2_with fail
  refine (dist_any ha0 hb0 ha1 hb1 hc0 hd0 hc1 hd1 _).mono ?_
  rintro e w1 ⟨rfl, hb⟩
  have hb' := Lib.hid hb
  clear hb ha0 hb0 ha1 hb1 hc0 hd0 hc1 hd1
  go_wp2
  go_ret
  exact ⟨rfl, Below.trans (by repeat (first | exact Below.refl _ _ | (refine below_gr' ?_ (by first | omega | (simp [go_sem] <;> omega))) | (refine Below.alloc ?_ (by first | omega | (simp [go_sem] <;> omega)) _) | refine Below.drew ?_ | (refine Below.setCell ?_ (by first | omega | (simp [go_sem] <;> omega)) _))) (hb'.out.mono (by simp [go_sem] <;> omega))⟩

theorem doorOverlap_any (a0 b0 a1 b1 c0 d0 c1 d1 : Nat) (w : World) :
    Calls Try.prog 71 #[boxV a0 b0 a1 b1, boxV c0 d0 c1 d1] w fun e w' => e = .returned (.bool (ovB a0 b0 a1 b1 c0 d0 c1 d1)) ∧ Below w.heap.size w w' := by
  go_enter Try.func71, Try.ntmps71
  unfold boxV
  go_wp2_with fail
  refine (overlap_any a0 b0 a1 b1 c0 d0 c1 d1 _).mono ?_
  rintro e w1 ⟨rfl, hb⟩
  have hb' := Lib.hid hb
  clear hb
  go_wp2
  go_ret
  exact ⟨rfl, Below.trans (by repeat (first | exact Below.refl _ _ | (refine below_gr' ?_ (by first | omega | (simp [go_sem] <;> omega))) | (refine Below.alloc ?_ (by first | omega | (simp [go_sem] <;> omega)) _) | refine Below.drew ?_ | (refine Below.setCell ?_ (by first | omega | (simp [go_sem] <;> omega)) _))) (hb'.out.mono (by simp [go_sem] <;> omega))⟩

theorem boxJoin_any (a0 b0 a1 b1 c0 d0 c1 d1 : Nat) (w : World) :
    Calls Try.prog 20 #[boxV a0 b0 a1 b1, boxV c0 d0 c1 d1] w fun e w' => e = .returned (boxV (minR a0 c0) (minR b0 d0) (maxR a1 c1) (maxR b1 d1)) ∧ Below w.heap.size w w' := by
  unfold boxV
  go_enter Try.func20, Try.ntmps20
  go_wp2_with fail
  refine wp_region_gr_tail 6 (by kernel_rfl) (by kernel_rfl) (by kernel_rfl) ?_
  simp only [tailOps, idle, List.take_succ_cons, List.take_zero, List.drop_succ_cons, List.drop_zero, List.map_cons, List.map_nil, List.cons_append, List.nil_append]
  repeat (first | go_big_quiet_step (first | exact Calls.gr_of (box_any _ _ _ _ _) | exact Calls.gr_of (doorCombine_any _ _ _ _ _ _ _ _ _) | exact Calls.gr_of (fromBox_any _ _ _ _ _)) | quiet_step (first | exact Calls.gr_of (box_any _ _ _ _ _) | exact Calls.gr_of (doorCombine_any _ _ _ _ _ _ _ _ _) | exact Calls.gr_of (fromBox_any _ _ _ _ _)))
  refine wpQuiet_nil ?_
  intro _ hw'
  obtain ⟨q, hw''⟩ := hw'
  subst hw''
  unfold boxV
  go_wp2
  exact bodyPost_ret (v := .agg #[.float .f64 (minR a0 c0), .float .f64 (minR b0 d0), .float .f64 (maxR a1 c1), .float .f64 (maxR b1 d1)]) (by simp [results, Try.results20, go_sem]) rfl ⟨rfl, (by repeat (first | exact Below.refl _ _ | (refine below_gr' ?_ (by first | omega | (simp [go_sem] <;> omega))) | (refine Below.alloc ?_ (by first | omega | (simp [go_sem] <;> omega)) _) | refine Below.drew ?_ | (refine Below.setCell ?_ (by first | omega | (simp [go_sem] <;> omega)) _)))⟩

theorem boxDist_any {a0 b0 a1 b1 c0 d0 c1 d1 : Nat} {A0 B0 A1 B1 C0 D0 C1 D1 : Int} (ha0 : Sm a0 A0) (hb0 : Sm b0 B0) (ha1 : Sm a1 A1) (hb1 : Sm b1 B1) (hc0 : Sm c0 C0) (hd0 : Sm d0 D0) (hc1 : Sm c1 C1) (hd1 : Sm d1 D1) (w : World) :
    Calls Try.prog 21 #[boxV a0 b0 a1 b1, boxV c0 d0 c1 d1] w fun e w' => e = .returned (.float .f64 (distR a0 b0 a1 b1 c0 d0 c1 d1)) ∧ Below w.heap.size w w' := by
  have hd := Lib.hid (fun w => doorDist_any ha0 hb0 ha1 hb1 hc0 hd0 hc1 hd1 w)
  clear ha0 hb0 ha1 hb1 hc0 hd0 hc1 hd1
  unfold boxV
  go_enter Try.func21, Try.ntmps21
  go_wp2_with fail
  refine wp_region_gr (by kernel_rfl) (by kernel_rfl) ?_
  repeat (first | go_big_quiet_step (first | exact Calls.gr_of (box_any _ _ _ _ _) | exact Calls.gr_of (hd.out _)) | quiet_step (first | exact Calls.gr_of (box_any _ _ _ _ _) | exact Calls.gr_of (hd.out _)))
  refine wpQuiet_nil ?_
  intro _ hw'
  obtain ⟨q, hw''⟩ := hw'
  subst hw''
  go_wp2
  go_ret
  exact ⟨rfl, (by repeat (first | exact Below.refl _ _ | (refine below_gr' ?_ (by first | omega | (simp [go_sem] <;> omega))) | (refine Below.alloc ?_ (by first | omega | (simp [go_sem] <;> omega)) _) | refine Below.drew ?_ | (refine Below.setCell ?_ (by first | omega | (simp [go_sem] <;> omega)) _)))⟩

theorem boxesMeet_any (a0 b0 a1 b1 c0 d0 c1 d1 : Nat) (w : World) :
    Calls Try.prog 22 #[boxV a0 b0 a1 b1, boxV c0 d0 c1 d1] w fun e w' => e = .returned (.bool (ovB a0 b0 a1 b1 c0 d0 c1 d1)) ∧ Below w.heap.size w w' := by
  unfold boxV
  go_enter Try.func22, Try.ntmps22
  go_wp2_with fail
  refine wp_region_gr (by kernel_rfl) (by kernel_rfl) ?_
  repeat (first | go_big_quiet_step (first | exact Calls.gr_of (box_any _ _ _ _ _) | exact Calls.gr_of (doorOverlap_any _ _ _ _ _ _ _ _ _)) | quiet_step (first | exact Calls.gr_of (box_any _ _ _ _ _) | exact Calls.gr_of (doorOverlap_any _ _ _ _ _ _ _ _ _)))
  refine wpQuiet_nil ?_
  intro _ hw'
  obtain ⟨q, hw''⟩ := hw'
  subst hw''
  go_wp2
  go_ret
  exact ⟨rfl, (by repeat (first | exact Below.refl _ _ | (refine below_gr' ?_ (by first | omega | (simp [go_sem] <;> omega))) | (refine Below.alloc ?_ (by first | omega | (simp [go_sem] <;> omega)) _) | refine Below.drew ?_ | (refine Below.setCell ?_ (by first | omega | (simp [go_sem] <;> omega)) _)))⟩

theorem eWhole_any (a b c d : Nat) (w : World) :
    Calls Try.prog 66 #[boxV a b c d] w fun e w' => e = .returned (.bool (wholeB a && wholeB b && wholeB c && wholeB d)) ∧ Below w.heap.size w w' := by
  unfold boxV
  by_cases h1 : wholeB a = true
  · by_cases h2 : wholeB b = true
    · by_cases h3 : wholeB c = true
      · go_enter Try.func66, Try.ntmps66
        go_wp2_with (go_at_call 38; refine (gWhole_any _ _).mono ?_; rintro e w' ⟨rfl, hb⟩; obtain ⟨q, rfl⟩ := gr_of_below hb; clear hb)
        go_ret
        exact ⟨by simp [*], (by repeat (first | exact Below.refl _ _ | (refine below_gr' ?_ (by first | omega | (simp [go_sem] <;> omega))) | (refine Below.alloc ?_ (by first | omega | (simp [go_sem] <;> omega)) _) | refine Below.drew ?_ | (refine Below.setCell ?_ (by first | omega | (simp [go_sem] <;> omega)) _)))⟩
      · have h3' : wholeB c = false := by simpa using h3
        clear h3
        go_enter Try.func66, Try.ntmps66
        go_wp2_with (go_at_call 38; refine (gWhole_any _ _).mono ?_; rintro e w' ⟨rfl, hb⟩; obtain ⟨q, rfl⟩ := gr_of_below hb; clear hb)
        go_ret
        exact ⟨by simp [*], (by repeat (first | exact Below.refl _ _ | (refine below_gr' ?_ (by first | omega | (simp [go_sem] <;> omega))) | (refine Below.alloc ?_ (by first | omega | (simp [go_sem] <;> omega)) _) | refine Below.drew ?_ | (refine Below.setCell ?_ (by first | omega | (simp [go_sem] <;> omega)) _)))⟩
    · have h3' : wholeB b = false := by simpa using h2
      clear h2
      go_enter Try.func66, Try.ntmps66
      go_wp2_with (go_at_call 38; refine (gWhole_any _ _).mono ?_; rintro e w' ⟨rfl, hb⟩; obtain ⟨q, rfl⟩ := gr_of_below hb; clear hb)
      go_ret
      exact ⟨by simp [*], (by repeat (first | exact Below.refl _ _ | (refine below_gr' ?_ (by first | omega | (simp [go_sem] <;> omega))) | (refine Below.alloc ?_ (by first | omega | (simp [go_sem] <;> omega)) _) | refine Below.drew ?_ | (refine Below.setCell ?_ (by first | omega | (simp [go_sem] <;> omega)) _)))⟩
  · have h3' : wholeB a = false := by simpa using h1
    clear h1
    go_enter Try.func66, Try.ntmps66
    go_wp2_with (go_at_call 38; refine (gWhole_any _ _).mono ?_; rintro e w' ⟨rfl, hb⟩; obtain ⟨q, rfl⟩ := gr_of_below hb; clear hb)
    go_ret
    exact ⟨by simp [*], (by repeat (first | exact Below.refl _ _ | (refine below_gr' ?_ (by first | omega | (simp [go_sem] <;> omega))) | (refine Below.alloc ?_ (by first | omega | (simp [go_sem] <;> omega)) _) | refine Below.drew ?_ | (refine Below.setCell ?_ (by first | omega | (simp [go_sem] <;> omega)) _)))⟩
end Go.Proofs.Ytpphfoggjejpiaa
