/-
  The walks over the crossing of a ray, from the doors in. Conditions: whole numbers from -2^20 to 2^20.
-/
import Derived.Test.YtpphfoggjejpiaaGc
import Derived.Test.YtpphfoggjejpiaaGg
namespace Go.Proofs.Ytpphfoggjejpiaa
open Go.RowKit Fl Go.Sort

def crossB (ax ay bx by' px py : Int) : Bool :=
  if by' < ay then decide (by' ≤ py) && decide (py < ay) && decide (turn3 bx by' ax ay px py < 0) else decide (ay ≤ py) && decide (py < by') && decide (turn3 ax ay bx by' px py < 0)

theorem turnI_eq (ax ay bx by' px py : Int) : turnI ax ay bx by' px py = turn3 ax ay bx by' px py := by
  unfold turnI turn3
  have c1 := Int.mul_comm by' bx
  have c2 := Int.mul_comm ay bx
  have c3 := Int.mul_comm ax by'
  have c4 := Int.mul_comm ax ay
  simp only [Int.sub_mul, Int.mul_sub]
  omega

theorem turn3_swap (ax ay bx by' px py : Int) : turn3 bx by' ax ay px py = - turn3 ax ay bx by' px py := by
  unfold turn3
  have c1 := Int.mul_comm by' bx
  have c2 := Int.mul_comm ay bx
  have c3 := Int.mul_comm ax by'
  have c4 := Int.mul_comm ax ay
  simp only [Int.sub_mul, Int.mul_sub]
  omega

theorem signB_one (n : Int) : (signB n == 1) = decide (n < 0) := by
  unfold signB
  by_cases h : 0 < n
  · rw [if_pos h, decide_eq_false (by omega)]; rfl
  · rw [if_neg h]
    by_cases h2 : n < 0
    · rw [if_pos h2, decide_eq_true h2]; rfl
    · rw [if_neg h2, decide_eq_false h2]; rfl

theorem signB_two (n : Int) : (signB n == 2) = decide (n = 0) := by
  unfold signB
  by_cases h : 0 < n
  · rw [if_pos h, decide_eq_false (by omega)]; rfl
  · rw [if_neg h]
    by_cases h2 : n < 0
    · rw [if_pos h2, decide_eq_false (by omega)]; rfl
    · rw [if_neg h2, decide_eq_true (by omega)]; rfl

theorem loB_I {a b : Nat} {A B : Int} (h1 : IsI a A) (h2 : IsI b B) : IsI (loB a b) (min A B) := by
  unfold loB
  rw [gt_I h1 h2]
  by_cases h : B < A
  · rw [decide_eq_true h, if_pos rfl, Int.min_eq_right (by omega)]; exact h2
  · rw [decide_eq_false h, if_neg (by simp), Int.min_eq_left (by omega)]; exact h1

theorem hiB_I {a b : Nat} {A B : Int} (h1 : IsI a A) (h2 : IsI b B) : IsI (hiB a b) (max A B) := by
  unfold hiB
  rw [gt_I h1 h2]
  by_cases h : B < A
  · rw [decide_eq_true h, if_pos rfl, Int.max_eq_left (by omega)]; exact h1
  · rw [decide_eq_false h, if_neg (by simp), Int.max_eq_right (by omega)]; exact h2

theorem geF_I {a b : Nat} {A B : Int} (h1 : IsI a A) (h2 : IsI b B) : geF a b = decide (B ≤ A) := ge_I h1 h2
theorem leF_I {a b : Nat} {A B : Int} (h1 : IsI a A) (h2 : IsI b B) : leF a b = decide (A ≤ B) := le_I h1 h2
theorem ltF_I {a b : Nat} {A B : Int} (h1 : IsI a A) (h2 : IsI b B) : ltF a b = decide (A < B) := lt_I h1 h2

theorem inB_I {px py ax ay bx by' : Nat} {Px Py Ax Ay Bx By : Int} (h1 : IsI px Px) (h2 : IsI py Py) (h3 : IsI ax Ax) (h4 : IsI ay Ay) (h5 : IsI bx Bx) (h6 : IsI by' By) :
    inB px py (loB ax bx) (loB ay by') (hiB ax bx) (hiB ay by') = (decide (min Ax Bx ≤ Px) && decide (Px ≤ max Ax Bx) && (decide (min Ay By ≤ Py) && decide (Py ≤ max Ay By))) := by
  unfold inB
  rw [geF_I h1 (loB_I h3 h5), leF_I h1 (hiB_I h3 h5), geF_I h2 (loB_I h4 h6), leF_I h2 (hiB_I h4 h6), Bool.and_assoc (_ && _)]

theorem hasCrossing_I {px py ax ay bx by' : Nat} {Px Py Ax Ay Bx By : Int} (h1 : IsI px Px) (h2 : IsI py Py) (h3 : IsI ax Ax) (h4 : IsI ay Ay) (h5 : IsI bx Bx) (h6 : IsI by' By)
    (k1 : W20 Px) (k2 : W20 Py) (k3 : W20 Ax) (k4 : W20 Ay) (k5 : W20 Bx) (k6 : W20 By) (l1 : px < 2 ^ 64) (l2 : py < 2 ^ 64) (w : World) :
    Calls Try.prog 125 #[.agg #[.float .f64 px, .float .f64 py], .agg #[.float .f64 ax, .float .f64 ay, .float .f64 bx, .float .f64 by']] w fun e w' =>
      e = .returned (.tuple #[.bool (crossB Ax Ay Bx By Px Py), .bool (holdB Ax Ay Bx By Px Py)]) ∧ Below w.heap.size w w' := by
  cases h : (FloatKind.f64.format.order ay by' == some .gt) with
  | false =>
    have hd := h
    rw [gt_I h4 h6] at hd
    have hd' : ¬ By < Ay := of_decide_eq_false hd
    have e1 : (geF py ay && ltF py by' && (signB (turnI Ax Ay Bx By Px Py) == 1)) = crossB Ax Ay Bx By Px Py := by
      unfold crossB
      rw [if_neg hd', geF_I h2 h4, ltF_I h2 h6, signB_one, turnI_eq]
    have e2 : (inB px py (loB ax bx) (loB ay by') (hiB ax bx) (hiB ay by') && (signB (turnI Ax Ay Bx By Px Py) == 2)) = holdB Ax Ay Bx By Px Py := by
      unfold holdB
      rw [inB_I h1 h2 h3 h4 h5 h6, signB_two, turnI_eq, Bool.and_comm]
    have := hasCrossing_no h1 h2 h3 h4 h5 h6 k1 k2 k3 k4 k5 k6 l1 l2 h w
    rw [e1, e2] at this
    exact this
  | true =>
    have hd := h
    rw [gt_I h4 h6] at hd
    have hd' : By < Ay := of_decide_eq_true hd
    have e1 : (geF py by' && ltF py ay && (signB (turnI Bx By Ax Ay Px Py) == 1)) = crossB Ax Ay Bx By Px Py := by
      unfold crossB
      rw [if_pos hd', geF_I h2 h6, ltF_I h2 h4, signB_one, turnI_eq]
    have e2 : (inB px py (loB ax bx) (loB ay by') (hiB ax bx) (hiB ay by') && (signB (turnI Bx By Ax Ay Px Py) == 2)) = holdB Ax Ay Bx By Px Py := by
      unfold holdB
      rw [inB_I h1 h2 h3 h4 h5 h6, signB_two, turnI_eq, turn3_swap, Bool.and_comm]
      congr 1
      exact decide_eq_decide.2 (by omega)
    have := hasCrossing_ex h1 h2 h3 h4 h5 h6 k1 k2 k3 k4 k5 k6 l1 l2 h w
    rw [e1, e2] at this
    exact this

theorem doorCross_any {px py ax ay bx by' : Nat} {Px Py Ax Ay Bx By : Int} (h1 : IsI px Px) (h2 : IsI py Py) (h3 : IsI ax Ax) (h4 : IsI ay Ay) (h5 : IsI bx Bx) (h6 : IsI by' By)
    (k1 : W20 Px) (k2 : W20 Py) (k3 : W20 Ax) (k4 : W20 Ay) (k5 : W20 Bx) (k6 : W20 By) (l1 : px < 2 ^ 64) (l2 : py < 2 ^ 64) (w : World) :
    Calls Try.prog 80 #[.agg #[.float .f64 px, .float .f64 py], .agg #[.float .f64 ax, .float .f64 ay], .agg #[.float .f64 bx, .float .f64 by']] w fun e w' =>
      e = .returned (.tuple #[.bool (crossB Ax Ay Bx By Px Py), .bool (holdB Ax Ay Bx By Px Py)]) ∧ Below w.heap.size w w' := by
  have hh := Lib.hid (fun w => hasCrossing_I h1 h2 h3 h4 h5 h6 k1 k2 k3 k4 k5 k6 l1 l2 w)
  obtain ⟨C, hC⟩ : ∃ C, C = crossB Ax Ay Bx By Px Py := ⟨_, rfl⟩
  obtain ⟨H, hH⟩ : ∃ H, H = holdB Ax Ay Bx By Px Py := ⟨_, rfl⟩
  rw [← hC, ← hH] at hh ⊢
  clear h1 h2 h3 h4 h5 h6 k1 k2 k3 k4 k5 k6 l1 l2 hC hH
  go_enter Try.func80, Try.ntmps80
  go_wp2_with (go_at_call 125; refine (hh.out _).mono ?_; rintro e w' ⟨rfl, hb⟩; obtain ⟨q, rfl⟩ := gr_of_below hb; clear hb)
  refine bodyPost_ret ?_ rfl ⟨rfl, ?_⟩
  · simp [results, Try.results80, go_sem]
  · exact (by repeat (first | exact Below.refl _ _ | (refine below_gr' ?_ (by first | omega | (simp [go_sem] <;> omega))) | (refine Below.alloc ?_ (by first | omega | (simp [go_sem] <;> omega)) _) | refine Below.drew ?_ | (refine Below.setCell ?_ (by first | omega | (simp [go_sem] <;> omega)) _)))

theorem rayCross_any {px py ax ay bx by' : Nat} {Px Py Ax Ay Bx By : Int} (h1 : IsI px Px) (h2 : IsI py Py) (h3 : IsI ax Ax) (h4 : IsI ay Ay) (h5 : IsI bx Bx) (h6 : IsI by' By)
    (k1 : W20 Px) (k2 : W20 Py) (k3 : W20 Ax) (k4 : W20 Ay) (k5 : W20 Bx) (k6 : W20 By) (l1 : px < 2 ^ 64) (l2 : py < 2 ^ 64) (w : World) :
    Calls Try.prog 32 #[.agg #[.float .f64 px, .float .f64 py], .agg #[.float .f64 ax, .float .f64 ay], .agg #[.float .f64 bx, .float .f64 by']] w fun e w' =>
      e = .returned (.tuple #[.bool (crossB Ax Ay Bx By Px Py), .bool (holdB Ax Ay Bx By Px Py)]) ∧ Below w.heap.size w w' := by
  have hh := Lib.hid (fun w => doorCross_any h1 h2 h3 h4 h5 h6 k1 k2 k3 k4 k5 k6 l1 l2 w)
  obtain ⟨C, hC⟩ : ∃ C, C = crossB Ax Ay Bx By Px Py := ⟨_, rfl⟩
  obtain ⟨H, hH⟩ : ∃ H, H = holdB Ax Ay Bx By Px Py := ⟨_, rfl⟩
  rw [← hC, ← hH] at hh ⊢
  clear h1 h2 h3 h4 h5 h6 k1 k2 k3 k4 k5 k6 l1 l2 hC hH
  go_enter Try.func32, Try.ntmps32
  go_wp2_with fail
  refine wp_region_gr (by kernel_rfl) (by kernel_rfl) ?_
  repeat (first | go_big_quiet_step (first | with_reducible exact Calls.gr_of (xy_any _ _ _) | with_reducible exact Calls.gr_of (hh.out _)) | quiet_step (first | with_reducible exact Calls.gr_of (xy_any _ _ _) | with_reducible exact Calls.gr_of (hh.out _)))
  refine wpQuiet_nil ?_
  intro _ hw'
  obtain ⟨q, hw''⟩ := hw'
  subst hw''
  go_wp2
  refine bodyPost_ret ?_ rfl ⟨rfl, ?_⟩
  · simp [results, Try.results32, go_sem]
  · exact (by repeat (first | exact Below.refl _ _ | (refine below_gr' ?_ (by first | omega | (simp [go_sem] <;> omega))) | (refine Below.alloc ?_ (by first | omega | (simp [go_sem] <;> omega)) _) | refine Below.drew ?_ | (refine Below.setCell ?_ (by first | omega | (simp [go_sem] <;> omega)) _)))

theorem dPlaces_any (b off cap : Nat) (ps : List (Int × Int)) (m : Int) (hm : 0 ≤ m ∧ m ≤ 4611686018427387904) (w : World) (hb : b < w.heap.size) (hn : ps.length ≤ 200) (hc : SptsAt w b off ps) :
    Calls Try.prog 31 #[.int .i64 m, .slice (some ⟨b, off, none⟩) ps.length cap] w fun en w' => en = .returned (.bool (formB m ps)) ∧ Below w.heap.size w w' := by
  have hs := Lib.hid (formed_any b off cap ps m hm w hb (by omega) hc)
  have hn' : (ps.length : Int) ≤ 200 := by omega
  clear hc hn
  go_enter Try.func31, Try.ntmps31
  go_wp2_with (go_at_call 58; refine (hs.out).mono ?_; rintro e w' ⟨rfl, hq⟩; obtain ⟨q, rfl⟩ := gr_of_below hq; clear hq)
  go_ret
  exact ⟨rfl, (by repeat (first | exact Below.refl _ _ | (refine below_gr' ?_ (by first | omega | (simp [go_sem] <;> omega))) | (refine Below.alloc ?_ (by first | omega | (simp [go_sem] <;> omega)) _) | refine Below.drew ?_ | (refine Below.setCell ?_ (by first | omega | (simp [go_sem] <;> omega)) _)))⟩
end Go.Proofs.Ytpphfoggjejpiaa
