/-
  The walks over the reference's plane, continued: a place on a segment, by the tests one behind the other. Conditions: whole numbers from -2^20 to 2^20.
-/
import Derived.Test.YtpphfoggjejpiaaGd
import Derived.BigGuard
namespace Go.Proofs.Ytpphfoggjejpiaa
open Go.RowKit Fl Go.Sort

set_option maxHeartbeats 1000000 in
theorem holds_0 {ax ay bx by' cx cy T : Int}
    (hs : ∀ w, Calls Try.prog 126 #[.agg #[.int .i64 ax, .int .i64 ay, .int .i64 bx, .int .i64 by'], .agg #[.int .i64 cx, .int .i64 cy, .int .i64 1]] w fun e w' => e = .returned (.int .i64 T) ∧ Below w.heap.size w w')
     (h0 : (T == 0) = false) (w : World) :
    Calls Try.prog 81 #[.agg #[.int .i64 ax, .int .i64 ay, .int .i64 bx, .int .i64 by'], .agg #[.int .i64 cx, .int .i64 cy, .int .i64 1]] w fun e w' => e = .returned (.bool false) ∧ Below w.heap.size w w' := by
  have hs' := Lib.hid hs
  clear hs
  go_enter Try.func81, Try.ntmps81
  simp only [List.append]
  go_wp2_with (go_at_call 126; refine (hs'.out _).mono ?_; rintro e w' ⟨rfl, hb⟩; obtain ⟨q, rfl⟩ := gr_of_below hb; clear hb)
  go_ret
  exact ⟨rfl, (by repeat (first | exact Below.refl _ _ | (refine below_gr' ?_ (by first | omega | (simp [go_sem] <;> omega))) | (refine Below.alloc ?_ (by first | omega | (simp [go_sem] <;> omega)) _) | refine Below.drew ?_ | (refine Below.setCell ?_ (by first | omega | (simp [go_sem] <;> omega)) _)))⟩

set_option maxHeartbeats 1000000 in
theorem holds_1 {ax ay bx by' cx cy T M1 : Int}
    (hs : ∀ w, Calls Try.prog 126 #[.agg #[.int .i64 ax, .int .i64 ay, .int .i64 bx, .int .i64 by'], .agg #[.int .i64 cx, .int .i64 cy, .int .i64 1]] w fun e w' => e = .returned (.int .i64 T) ∧ Below w.heap.size w w')
    (hM1 : (if bx < ax then bx else ax) = M1) (b1 : -1048576 ≤ M1 ∧ M1 ≤ 1048576) (h0 : (T == 0) = true) (c1 : cx < M1) (w : World) :
    Calls Try.prog 81 #[.agg #[.int .i64 ax, .int .i64 ay, .int .i64 bx, .int .i64 by'], .agg #[.int .i64 cx, .int .i64 cy, .int .i64 1]] w fun e w' => e = .returned (.bool false) ∧ Below w.heap.size w w' := by
  have hs' := Lib.hid hs
  clear hs
  go_enter Try.func81, Try.ntmps81
  simp only [List.append]
  go_wp2_with (go_at_call 126; refine (hs'.out _).mono ?_; rintro e w' ⟨rfl, hb⟩; obtain ⟨q, rfl⟩ := gr_of_below hb; clear hb)
  go_ret
  exact ⟨rfl, (by repeat (first | exact Below.refl _ _ | (refine below_gr' ?_ (by first | omega | (simp [go_sem] <;> omega))) | (refine Below.alloc ?_ (by first | omega | (simp [go_sem] <;> omega)) _) | refine Below.drew ?_ | (refine Below.setCell ?_ (by first | omega | (simp [go_sem] <;> omega)) _)))⟩

set_option maxHeartbeats 1000000 in
theorem holds_2 {ax ay bx by' cx cy T M1 M2 : Int}
    (hs : ∀ w, Calls Try.prog 126 #[.agg #[.int .i64 ax, .int .i64 ay, .int .i64 bx, .int .i64 by'], .agg #[.int .i64 cx, .int .i64 cy, .int .i64 1]] w fun e w' => e = .returned (.int .i64 T) ∧ Below w.heap.size w w')
    (hM1 : (if bx < ax then bx else ax) = M1) (b1 : -1048576 ≤ M1 ∧ M1 ≤ 1048576) (hM2 : (if ax < bx then bx else ax) = M2) (b2 : -1048576 ≤ M2 ∧ M2 ≤ 1048576) (h0 : (T == 0) = true) (c1 : M1 ≤ cx) (c2 : M2 < cx) (w : World) :
    Calls Try.prog 81 #[.agg #[.int .i64 ax, .int .i64 ay, .int .i64 bx, .int .i64 by'], .agg #[.int .i64 cx, .int .i64 cy, .int .i64 1]] w fun e w' => e = .returned (.bool false) ∧ Below w.heap.size w w' := by
  have hs' := Lib.hid hs
  clear hs
  go_enter Try.func81, Try.ntmps81
  simp only [List.append]
  go_wp2_with (go_at_call 126; refine (hs'.out _).mono ?_; rintro e w' ⟨rfl, hb⟩; obtain ⟨q, rfl⟩ := gr_of_below hb; clear hb)
  go_ret
  exact ⟨rfl, (by repeat (first | exact Below.refl _ _ | (refine below_gr' ?_ (by first | omega | (simp [go_sem] <;> omega))) | (refine Below.alloc ?_ (by first | omega | (simp [go_sem] <;> omega)) _) | refine Below.drew ?_ | (refine Below.setCell ?_ (by first | omega | (simp [go_sem] <;> omega)) _)))⟩

set_option maxHeartbeats 1000000 in
theorem holds_3 {ax ay bx by' cx cy T M1 M2 M3 : Int}
    (hs : ∀ w, Calls Try.prog 126 #[.agg #[.int .i64 ax, .int .i64 ay, .int .i64 bx, .int .i64 by'], .agg #[.int .i64 cx, .int .i64 cy, .int .i64 1]] w fun e w' => e = .returned (.int .i64 T) ∧ Below w.heap.size w w')
    (hM1 : (if bx < ax then bx else ax) = M1) (b1 : -1048576 ≤ M1 ∧ M1 ≤ 1048576) (hM2 : (if ax < bx then bx else ax) = M2) (b2 : -1048576 ≤ M2 ∧ M2 ≤ 1048576) (hM3 : (if by' < ay then by' else ay) = M3) (b3 : -1048576 ≤ M3 ∧ M3 ≤ 1048576) (h0 : (T == 0) = true) (c1 : M1 ≤ cx) (c2 : cx ≤ M2) (c3 : cy < M3) (w : World) :
    Calls Try.prog 81 #[.agg #[.int .i64 ax, .int .i64 ay, .int .i64 bx, .int .i64 by'], .agg #[.int .i64 cx, .int .i64 cy, .int .i64 1]] w fun e w' => e = .returned (.bool false) ∧ Below w.heap.size w w' := by
  have hs' := Lib.hid hs
  clear hs
  go_enter Try.func81, Try.ntmps81
  simp only [List.append]
  go_wp2_with (go_at_call 126; refine (hs'.out _).mono ?_; rintro e w' ⟨rfl, hb⟩; obtain ⟨q, rfl⟩ := gr_of_below hb; clear hb)
  go_ret
  exact ⟨rfl, (by repeat (first | exact Below.refl _ _ | (refine below_gr' ?_ (by first | omega | (simp [go_sem] <;> omega))) | (refine Below.alloc ?_ (by first | omega | (simp [go_sem] <;> omega)) _) | refine Below.drew ?_ | (refine Below.setCell ?_ (by first | omega | (simp [go_sem] <;> omega)) _)))⟩

set_option maxHeartbeats 1000000 in
theorem holds_4 {ax ay bx by' cx cy T M1 M2 M3 M4 : Int}
    (hs : ∀ w, Calls Try.prog 126 #[.agg #[.int .i64 ax, .int .i64 ay, .int .i64 bx, .int .i64 by'], .agg #[.int .i64 cx, .int .i64 cy, .int .i64 1]] w fun e w' => e = .returned (.int .i64 T) ∧ Below w.heap.size w w')
    (hM1 : (if bx < ax then bx else ax) = M1) (b1 : -1048576 ≤ M1 ∧ M1 ≤ 1048576) (hM2 : (if ax < bx then bx else ax) = M2) (b2 : -1048576 ≤ M2 ∧ M2 ≤ 1048576) (hM3 : (if by' < ay then by' else ay) = M3) (b3 : -1048576 ≤ M3 ∧ M3 ≤ 1048576) (hM4 : (if ay < by' then by' else ay) = M4) (b4 : -1048576 ≤ M4 ∧ M4 ≤ 1048576) (h0 : (T == 0) = true) (c1 : M1 ≤ cx) (c2 : cx ≤ M2) (c3 : M3 ≤ cy) (w : World) :
    Calls Try.prog 81 #[.agg #[.int .i64 ax, .int .i64 ay, .int .i64 bx, .int .i64 by'], .agg #[.int .i64 cx, .int .i64 cy, .int .i64 1]] w fun e w' => e = .returned (.bool (decide (cy ≤ M4))) ∧ Below w.heap.size w w' := by
  have hs' := Lib.hid hs
  clear hs
  go_enter Try.func81, Try.ntmps81
  simp only [List.append]
  go_wp2_with (go_at_call 126; refine (hs'.out _).mono ?_; rintro e w' ⟨rfl, hb⟩; obtain ⟨q, rfl⟩ := gr_of_below hb; clear hb)
  go_ret
  exact ⟨rfl, (by repeat (first | exact Below.refl _ _ | (refine below_gr' ?_ (by first | omega | (simp [go_sem] <;> omega))) | (refine Below.alloc ?_ (by first | omega | (simp [go_sem] <;> omega)) _) | refine Below.drew ?_ | (refine Below.setCell ?_ (by first | omega | (simp [go_sem] <;> omega)) _)))⟩

theorem holds_any {ax ay bx by' cx cy : Int} (k1 : W20 ax) (k2 : W20 ay) (k3 : W20 bx) (k4 : W20 by') (k5 : W20 cx) (k6 : W20 cy) (w : World) :
    Calls Try.prog 81 #[.agg #[.int .i64 ax, .int .i64 ay, .int .i64 bx, .int .i64 by'], .agg #[.int .i64 cx, .int .i64 cy, .int .i64 1]] w fun e w' => e = .returned (.bool (holdB ax ay bx by' cx cy)) ∧ Below w.heap.size w w' := by
  have hs := fun w => side_any k1 k2 k3 k4 k5 k6 w
  unfold W20 at *
  unfold holdB
  generalize turn3 ax ay bx by' cx cy = T at hs ⊢
  have b1 : -1048576 ≤ min ax bx ∧ min ax bx ≤ 1048576 := by omega
  have b2 : -1048576 ≤ max ax bx ∧ max ax bx ≤ 1048576 := by omega
  have b3 : -1048576 ≤ min ay by' ∧ min ay by' ≤ 1048576 := by omega
  have b4 : -1048576 ≤ max ay by' ∧ max ay by' ≤ 1048576 := by omega
  have m1 : (if bx < ax then bx else ax) = min ax bx := by split <;> omega
  have m2 : (if ax < bx then bx else ax) = max ax bx := by split <;> omega
  have m3 : (if by' < ay then by' else ay) = min ay by' := by split <;> omega
  have m4 : (if ay < by' then by' else ay) = max ay by' := by split <;> omega
  by_cases h0 : T = 0
  · have h0' : (T == 0) = true := by rw [h0]; rfl
    rw [decide_eq_true h0, Bool.true_and]
    by_cases c1 : min ax bx ≤ cx
    · rw [decide_eq_true c1, Bool.true_and]
      by_cases c2 : cx ≤ max ax bx
      · rw [decide_eq_true c2, Bool.true_and]
        by_cases c3 : min ay by' ≤ cy
        · rw [decide_eq_true c3, Bool.true_and]
          exact holds_4 hs m1 b1 m2 b2 m3 b3 m4 b4 h0' c1 c2 c3 w
        · rw [decide_eq_false c3, Bool.false_and]
          exact holds_3 hs m1 b1 m2 b2 m3 b3 h0' c1 c2 (by omega) w
      · rw [decide_eq_false c2, Bool.false_and]
        exact holds_2 hs m1 b1 m2 b2 h0' c1 (by omega) w
    · rw [decide_eq_false c1, Bool.false_and]
      exact holds_1 hs m1 b1 h0' (by omega) w
  · rw [decide_eq_false h0, Bool.false_and]
    exact holds_0 hs (by rw [beq_eq_false_iff_ne]; exact h0) w
end Go.Proofs.Ytpphfoggjejpiaa
