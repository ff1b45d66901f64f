/-
  FnRayCrossing: its walk. Conditions: as each theorem states them.
-/
import Derived.Test.YtpphfoggjejpiaaGh
import Derived.Test.YtpphfoggjejpiaaGi
namespace Go.Proofs.Ytpphfoggjejpiaa
open Go.RowKit Fl Go.Sort

theorem cross_on {ax ay bx by' px py : Int} (h : holdB ax ay bx by' px py = true) : crossB ax ay bx by' px py = false := by
  have ht : turn3 ax ay bx by' px py = 0 := by unfold holdB at h; simp at h; exact h.1
  unfold crossB
  rw [turn3_swap, ht]
  split <;> simp

theorem w20_of {m : Int × Int} (h : inM 1048576 m = true) : W20 m.1 ∧ W20 m.2 := by
  unfold inM at h
  simp at h
  unfold W20
  omega

theorem eq_pts (ax ay bx by' : Int) (h : ¬ (ax = bx ∧ ay = by')) : (ax == bx && ay == by') = false := by
  rw [Bool.and_eq_false_iff, beq_eq_false_iff_ne, beq_eq_false_iff_ne]
  by_cases h1 : ax = bx
  · exact Or.inr (fun h2 => h ⟨h1, h2⟩)
  · exact Or.inl h1

set_option maxHeartbeats 4000000 in
theorem ray_same (px py ax ay : Int) (w : World) :
    Calls Try.prog 8 #[ptV px py, ptV ax ay, ptV ax ay] w fun e w' => e = .returned (.bool true) ∧ Below w.heap.size w w' := by
  unfold ptV
  go_enter Try.func8, Try.ntmps8
  go_wp2
  go_ret
  exact ⟨rfl, (by repeat (first | exact Below.refl _ _ | (refine below_gr' ?_ (by first | omega | (simp [go_sem] <;> omega))) | (refine Below.alloc ?_ (by first | omega | (simp [go_sem] <;> omega)) _) | refine Below.drew ?_ | (refine Below.setCell ?_ (by first | omega | (simp [go_sem] <;> omega)) _)))⟩

theorem three_spts {w : World} {px py ax ay bx by' : Int} {ty : TypeId} : SptsAt (w.alloc (.cells #[.int .i64 px, .int .i64 py, .int .i64 ax, .int .i64 ay, .int .i64 bx, .int .i64 by'] ty)) w.heap.size 0 [(px, py), (ax, ay), (bx, by')] := by
  intro i hi
  match i, hi with
  | 0, _ => exact ⟨by go_simp, by go_simp⟩
  | 1, _ => exact ⟨by go_simp, by go_simp⟩
  | 2, _ => exact ⟨by go_simp, by go_simp⟩

theorem dThree (px py ax ay bx by' : Int) (ty : TypeId) (w : World) (b cap : Nat) (hb : b = w.heap.size) :
    Calls Try.prog 31 #[.int .i64 1048576, .slice (some ⟨b, 0, none⟩) 3 cap] (w.alloc (.cells #[.int .i64 px, .int .i64 py, .int .i64 ax, .int .i64 ay, .int .i64 bx, .int .i64 by'] ty)) fun en w'' => en = .returned (.bool (formB 1048576 [(px, py), (ax, ay), (bx, by')])) ∧ Below (w.alloc (.cells #[.int .i64 px, .int .i64 py, .int .i64 ax, .int .i64 ay, .int .i64 bx, .int .i64 by'] ty)).heap.size (w.alloc (.cells #[.int .i64 px, .int .i64 py, .int .i64 ax, .int .i64 ay, .int .i64 bx, .int .i64 by'] ty)) w'' := by
  subst hb
  have h := dPlaces_any w.heap.size 0 cap [(px, py), (ax, ay), (bx, by')] 1048576 (by omega) (w.alloc (.cells #[.int .i64 px, .int .i64 py, .int .i64 ax, .int .i64 ay, .int .i64 bx, .int .i64 by'] ty)) (by simp) (by simp) three_spts
  exact h

set_option maxHeartbeats 4000000 in
theorem ray_out (px py ax ay bx by' : Int) (hne : ¬ (ax = bx ∧ ay = by')) (hf : formB 1048576 [(px, py), (ax, ay), (bx, by')] = false) (w : World) :
    Calls Try.prog 8 #[ptV px py, ptV ax ay, ptV bx by'] w fun e w' => e = .returned (.bool true) ∧ Below w.heap.size w w' := by
  have hd := Lib.hid (fun ty w b cap hb => dThree px py ax ay bx by' ty w b cap hb)
  rw [hf] at hd
  clear hf
  unfold ptV
  by_cases hx : ax = bx
  · have hy : ¬ ay = by' := fun h => hne ⟨hx, h⟩
    clear hne
    subst hx
    go_enter Try.func8, Try.ntmps8
    go_wp2_with (go_at_call 31; refine (hd.out _ _ _ _ (by simp)).mono ?_; rintro e w' ⟨rfl, hq⟩; obtain ⟨q, rfl⟩ := gr_of_below hq; clear hq)
    go_ret
    exact ⟨rfl, (by repeat (first | exact Below.refl _ _ | (refine below_gr' ?_ (by first | omega | (simp [go_sem] <;> omega))) | (refine Below.alloc ?_ (by first | omega | (simp [go_sem] <;> omega)) _) | refine Below.drew ?_ | (refine Below.setCell ?_ (by first | omega | (simp [go_sem] <;> omega)) _)))⟩
  · clear hne
    go_enter Try.func8, Try.ntmps8
    go_wp2_with (go_at_call 31; refine (hd.out _ _ _ _ (by simp)).mono ?_; rintro e w' ⟨rfl, hq⟩; obtain ⟨q, rfl⟩ := gr_of_below hq; clear hq)
    go_ret
    exact ⟨rfl, (by repeat (first | exact Below.refl _ _ | (refine below_gr' ?_ (by first | omega | (simp [go_sem] <;> omega))) | (refine Below.alloc ?_ (by first | omega | (simp [go_sem] <;> omega)) _) | refine Below.drew ?_ | (refine Below.setCell ?_ (by first | omega | (simp [go_sem] <;> omega)) _)))⟩

theorem ray_flI {px py ax ay bx by' : Int} (k1 : W20 px) (k2 : W20 py) (k3 : W20 ax) (k4 : W20 ay) (k5 : W20 bx) (k6 : W20 by') (w : World) :
    Calls Try.prog 32 #[.agg #[.float .f64 (flI px), .float .f64 (flI py)], .agg #[.float .f64 (flI ax), .float .f64 (flI ay)], .agg #[.float .f64 (flI bx), .float .f64 (flI by')]] w fun e w' =>
      e = .returned (.tuple #[.bool (crossB ax ay bx by' px py), .bool (holdB ax ay bx by' px py)]) ∧ Below w.heap.size w w' := by
  have b : ∀ n : Int, W20 n → n.natAbs < 2 ^ 53 := by intro n h; unfold W20 at h; omega
  have o1 := of_int px (b _ k1)
  have o2 := of_int py (b _ k2)
  have o3 := of_int ax (b _ k3)
  have o4 := of_int ay (b _ k4)
  have o5 := of_int bx (b _ k5)
  have o6 := of_int by' (b _ k6)
  exact rayCross_any o1.1 o2.1 o3.1 o4.1 o5.1 o6.1 k1 k2 k3 k4 k5 k6 o1.2 o2.2 w

set_option maxHeartbeats 4000000 in
theorem ray_on (px py ax ay bx by' : Int) (hf : formB 1048576 [(px, py), (ax, ay), (bx, by')] = true) (hH : holdB ax ay bx by' px py = true) (hC : crossB ax ay bx by' px py = false) (hx : ¬ ax = bx) (w : World) :
    Calls Try.prog 8 #[ptV px py, ptV ax ay, ptV bx by'] w fun e w' => e = .returned (.bool true) ∧ Below w.heap.size w w' := by
  have hd := Lib.hid (fun ty w b cap hb => dThree px py ax ay bx by' ty w b cap hb)
  rw [hf] at hd
  obtain ⟨k1, k2, k3, k4, k5, k6⟩ : W20 px ∧ W20 py ∧ W20 ax ∧ W20 ay ∧ W20 bx ∧ W20 by' := by
    unfold formB at hf
    simp only [List.all_cons, List.all_nil, Bool.and_true, Bool.and_eq_true] at hf
    have a1 := w20_of hf.1
    have a2 := w20_of hf.2.1
    have a3 := w20_of hf.2.2
    exact ⟨a1.1, a1.2, a2.1, a2.2, a3.1, a3.2⟩
  have hh := Lib.hid (fun w => hasPt_any k3 k4 k5 k6 k1 k2 w)
  rw [hH] at hh
  have hr := Lib.hid (fun w => ray_flI k1 k2 k3 k4 k5 k6 w)
  rw [hH, hC] at hr
  have h1 := Lib.hid (fun w => lxy_any px py w)
  have h2 := Lib.hid (fun w => lxy_any ax ay w)
  have h3 := Lib.hid (fun w => lxy_any bx by' w)
  clear hf hH hC k1 k2 k3 k4 k5 k6
  unfold ptV at *
  go_enter Try.func8, Try.ntmps8
  go_wp2_with (first | (go_at_call 31; refine (hd.out _ _ _ _ (by simp)).mono ?_; rintro e w' ⟨rfl, hq⟩; obtain ⟨q, rfl⟩ := gr_of_below hq; clear hq) | (go_at_call 34; refine (hh.out _).mono ?_; rintro e w' ⟨rfl, hq⟩; obtain ⟨q, rfl⟩ := gr_of_below hq; clear hq))
  refine wp_region_gr' (by kernel_rfl) (by kernel_rfl) ?_
  repeat (first | go_big_quiet_step (first | with_reducible exact Calls.gr_of (h1.out _) | with_reducible exact Calls.gr_of (h2.out _) | with_reducible exact Calls.gr_of (h3.out _) | with_reducible exact Calls.gr_of (hr.out _)) | quiet_step (first | with_reducible exact Calls.gr_of (h1.out _) | with_reducible exact Calls.gr_of (h2.out _) | with_reducible exact Calls.gr_of (h3.out _) | with_reducible exact Calls.gr_of (hr.out _)))
  refine wpQuiet_nil ?_
  intro _ hw'
  obtain ⟨q, hw''⟩ := hw'
  subst hw''
  go_wp2_with (first | (go_at_call 31; refine (hd.out _ _ _ _ (by simp)).mono ?_; rintro e w' ⟨rfl, hq⟩; obtain ⟨q, rfl⟩ := gr_of_below hq; clear hq) | (go_at_call 34; refine (hh.out _).mono ?_; rintro e w' ⟨rfl, hq⟩; obtain ⟨q, rfl⟩ := gr_of_below hq; clear hq))
  go_ret
  exact ⟨rfl, (by repeat (first | exact Below.refl _ _ | (refine below_gr' ?_ (by first | omega | (simp [go_sem] <;> omega))) | (refine Below.alloc ?_ (by first | omega | (simp [go_sem] <;> omega)) _) | refine Below.drew ?_ | (refine Below.setCell ?_ (by first | omega | (simp [go_sem] <;> omega)) _)))⟩
set_option maxHeartbeats 4000000 in
theorem ray_on' (px py ax ay by' : Int) (hf : formB 1048576 [(px, py), (ax, ay), (ax, by')] = true) (hH : holdB ax ay ax by' px py = true) (hC : crossB ax ay ax by' px py = false) (hy : ¬ ay = by') (w : World) :
    Calls Try.prog 8 #[ptV px py, ptV ax ay, ptV ax by'] w fun e w' => e = .returned (.bool true) ∧ Below w.heap.size w w' := by
  have hd := Lib.hid (fun ty w b cap hb => dThree px py ax ay ax by' ty w b cap hb)
  rw [hf] at hd
  obtain ⟨k1, k2, k3, k4, k5, k6⟩ : W20 px ∧ W20 py ∧ W20 ax ∧ W20 ay ∧ W20 ax ∧ W20 by' := by
    unfold formB at hf
    simp only [List.all_cons, List.all_nil, Bool.and_true, Bool.and_eq_true] at hf
    have a1 := w20_of hf.1
    have a2 := w20_of hf.2.1
    have a3 := w20_of hf.2.2
    exact ⟨a1.1, a1.2, a2.1, a2.2, a3.1, a3.2⟩
  have hh := Lib.hid (fun w => hasPt_any k3 k4 k5 k6 k1 k2 w)
  rw [hH] at hh
  have hr := Lib.hid (fun w => ray_flI k1 k2 k3 k4 k5 k6 w)
  rw [hH, hC] at hr
  have h1 := Lib.hid (fun w => lxy_any px py w)
  have h2 := Lib.hid (fun w => lxy_any ax ay w)
  have h3 := Lib.hid (fun w => lxy_any ax by' w)
  clear hf hH hC k1 k2 k3 k4 k5 k6
  unfold ptV at *
  go_enter Try.func8, Try.ntmps8
  go_wp2_with (first | (go_at_call 31; refine (hd.out _ _ _ _ (by simp)).mono ?_; rintro e w' ⟨rfl, hq⟩; obtain ⟨q, rfl⟩ := gr_of_below hq; clear hq) | (go_at_call 34; refine (hh.out _).mono ?_; rintro e w' ⟨rfl, hq⟩; obtain ⟨q, rfl⟩ := gr_of_below hq; clear hq))
  refine wp_region_gr' (by kernel_rfl) (by kernel_rfl) ?_
  repeat (first | go_big_quiet_step (first | with_reducible exact Calls.gr_of (h1.out _) | with_reducible exact Calls.gr_of (h2.out _) | with_reducible exact Calls.gr_of (h3.out _) | with_reducible exact Calls.gr_of (hr.out _)) | quiet_step (first | with_reducible exact Calls.gr_of (h1.out _) | with_reducible exact Calls.gr_of (h2.out _) | with_reducible exact Calls.gr_of (h3.out _) | with_reducible exact Calls.gr_of (hr.out _)))
  refine wpQuiet_nil ?_
  intro _ hw'
  obtain ⟨q, hw''⟩ := hw'
  subst hw''
  go_wp2_with (first | (go_at_call 31; refine (hd.out _ _ _ _ (by simp)).mono ?_; rintro e w' ⟨rfl, hq⟩; obtain ⟨q, rfl⟩ := gr_of_below hq; clear hq) | (go_at_call 34; refine (hh.out _).mono ?_; rintro e w' ⟨rfl, hq⟩; obtain ⟨q, rfl⟩ := gr_of_below hq; clear hq))
  go_ret
  exact ⟨rfl, (by repeat (first | exact Below.refl _ _ | (refine below_gr' ?_ (by first | omega | (simp [go_sem] <;> omega))) | (refine Below.alloc ?_ (by first | omega | (simp [go_sem] <;> omega)) _) | refine Below.drew ?_ | (refine Below.setCell ?_ (by first | omega | (simp [go_sem] <;> omega)) _)))⟩
end Go.Proofs.Ytpphfoggjejpiaa
