/-
  The walks over places of whole numbers in the plane: difference, cross product, turn, crossing of a ray. Conditions: whole numbers from -2^20 to 2^20.
-/
import Derived.Test.YtpphfoggjejpiaaFn
import Derived.Test.YtpphfoggjejpiaaEp
namespace Go.Proofs.Ytpphfoggjejpiaa
open Go.RowKit Fl Go.Sort

theorem subXY_any {ax ay bx by' : Nat} {Ax Ay Bx By : Int} (h1 : IsI ax Ax) (h2 : IsI ay Ay) (h3 : IsI bx Bx) (h4 : IsI by' By) (k1 : (Ax - Bx).natAbs < 2 ^ 53) (k2 : (Ay - By).natAbs < 2 ^ 53) (w : World) :
    Calls Try.prog 180 #[.agg #[.float .f64 ax, .float .f64 ay], .agg #[.float .f64 bx, .float .f64 by']] w fun e w' => e = .returned (.agg #[.float .f64 (subR ax bx), .float .f64 (subR ay by')]) ∧ Below w.heap.size w w' := by
  have s1 := run_sub (P := Try.prog) h1 h3 22 k1
  have s2 := run_sub (P := Try.prog) h2 h4 22 k2
  clear h1 h2 h3 h4 k1 k2
  go_enter Try.func180, Try.ntmps180
  go_wp2
  exact bodyPost_ret (v := .agg #[.float .f64 (subR ax bx), .float .f64 (subR ay by')]) (by simp [results, Try.results180, go_sem]) rfl ⟨rfl, (by repeat (first | exact Below.refl _ _ | (refine below_gr' ?_ (by first | omega | (simp [go_sem] <;> omega))) | (refine Below.alloc ?_ (by first | omega | (simp [go_sem] <;> omega)) _) | refine Below.drew ?_ | (refine Below.setCell ?_ (by first | omega | (simp [go_sem] <;> omega)) _)))⟩

theorem crossXY_any {ax ay bx by' : Nat} {Ax Ay Bx By : Int} (h1 : IsI ax Ax) (h2 : IsI ay Ay) (h3 : IsI bx Bx) (h4 : IsI by' By) (k1 : (Ax * By).natAbs < 2 ^ 53) (k2 : (Ay * Bx).natAbs < 2 ^ 53) (k3 : (Ax * By - Ay * Bx).natAbs < 2 ^ 53) (w : World) :
    Calls Try.prog 181 #[.agg #[.float .f64 ax, .float .f64 ay], .agg #[.float .f64 bx, .float .f64 by']] w fun e w' => e = .returned (.float .f64 (subR (mulR ax by') (mulR ay bx))) ∧ Below w.heap.size w w' := by
  have s1 := run_mul (P := Try.prog) h1 h4 22 k1
  have s2 := run_mul (P := Try.prog) h2 h3 22 k2
  have s3 := run_sub (P := Try.prog) (mulR_I h1 h4 k1) (mulR_I h2 h3 k2) 22 k3
  clear h1 h2 h3 h4 k1 k2 k3
  go_enter Try.func181, Try.ntmps181
  go_wp2
  go_ret
  exact ⟨rfl, (by repeat (first | exact Below.refl _ _ | (refine below_gr' ?_ (by first | omega | (simp [go_sem] <;> omega))) | (refine Below.alloc ?_ (by first | omega | (simp [go_sem] <;> omega)) _) | refine Below.drew ?_ | (refine Below.setCell ?_ (by first | omega | (simp [go_sem] <;> omega)) _)))⟩

/-- A whole number from -2^20 to 2^20. -/
def W20 (n : Int) : Prop := -1048576 ≤ n ∧ n ≤ 1048576

def turnI (px py qx qy sx sy : Int) : Int := (qx - px) * (sy - qy) - (qy - py) * (sx - qx)
def signB (n : Int) : Int := if 0 < n then 3 else if n < 0 then 1 else 2

theorem prod_bound {a b : Int} (ha : -2097152 ≤ a ∧ a ≤ 2097152) (hb : -2097152 ≤ b ∧ b ≤ 2097152) : -4398046511104 ≤ a * b ∧ a * b ≤ 4398046511104 := by
  have h := Int.mul_le_mul (a := (a.natAbs : Int)) (b := (b.natAbs : Int)) (c := 2097152) (d := 2097152) (by omega) (by omega) (by omega) (by omega)
  have h2 : ((a * b).natAbs : Int) = (a.natAbs : Int) * (b.natAbs : Int) := by rw [Int.natAbs_mul]; rfl
  omega

theorem orientation_any {px py qx qy sx sy : Nat} {Px Py Qx Qy Sx Sy : Int} (h1 : IsI px Px) (h2 : IsI py Py) (h3 : IsI qx Qx) (h4 : IsI qy Qy) (h5 : IsI sx Sx) (h6 : IsI sy Sy)
    (k1 : W20 Px) (k2 : W20 Py) (k3 : W20 Qx) (k4 : W20 Qy) (k5 : W20 Sx) (k6 : W20 Sy) (w : World) :
    Calls Try.prog 171 #[.agg #[.float .f64 px, .float .f64 py], .agg #[.float .f64 qx, .float .f64 qy], .agg #[.float .f64 sx, .float .f64 sy]] w fun e w' =>
      e = .returned (.int .i64 (signB (turnI Px Py Qx Qy Sx Sy))) ∧ Below w.heap.size w w' := by
  unfold W20 at *
  have c1 := Lib.hid (fun w => subXY_any h3 h4 h1 h2 (abs_lt_53 (by omega) (by omega)) (abs_lt_53 (by omega) (by omega)) w)
  have c2 := Lib.hid (fun w => subXY_any h5 h6 h3 h4 (abs_lt_53 (by omega) (by omega)) (abs_lt_53 (by omega) (by omega)) w)
  have b1 := prod_bound (a := Qx - Px) (b := Sy - Qy) (by omega) (by omega)
  have b2 := prod_bound (a := Qy - Py) (b := Sx - Qx) (by omega) (by omega)
  have i1 := subR_I h3 h1 (abs_lt_53 (by omega) (by omega))
  have i2 := subR_I h4 h2 (abs_lt_53 (by omega) (by omega))
  have i3 := subR_I h5 h3 (abs_lt_53 (by omega) (by omega))
  have i4 := subR_I h6 h4 (abs_lt_53 (by omega) (by omega))
  have c3 := Lib.hid (fun w => crossXY_any i1 i2 i3 i4 (abs_lt_53 (by omega) (by omega)) (abs_lt_53 (by omega) (by omega)) (abs_lt_53 (by omega) (by omega)) w)
  have i5 := subR_I (mulR_I i1 i4 (abs_lt_53 (by omega) (by omega))) (mulR_I i2 i3 (abs_lt_53 (by omega) (by omega))) (abs_lt_53 (by omega) (by omega))
  have g1 := gt_I i5 isI_zero
  have g2 := lt_I i5 isI_zero
  rw [show (Qx - Px) * (Sy - Qy) - (Qy - Py) * (Sx - Qx) = turnI Px Py Qx Qy Sx Sy from rfl] at g1 g2
  obtain ⟨T, hT⟩ : ∃ T, T = turnI Px Py Qx Qy Sx Sy := ⟨_, rfl⟩
  rw [← hT] at g1 g2 ⊢
  obtain ⟨r, hr⟩ : ∃ r, r = subR (mulR (subR qx px) (subR sy qy)) (mulR (subR qy py) (subR sx qx)) := ⟨_, rfl⟩
  rw [← hr] at g1 g2 c3
  clear hT hr i1 i2 i3 i4 i5 b1 b2 h1 h2 h3 h4 h5 h6 k1 k2 k3 k4 k5 k6
  go_enter Try.func171, Try.ntmps171
  go_wp2_with fail
  refine wp_region_gr (by kernel_rfl) (by kernel_rfl) ?_
  repeat (first | go_big_quiet_step (first | with_reducible exact Calls.gr_of (c1.out _) | with_reducible exact Calls.gr_of (c2.out _) | with_reducible exact Calls.gr_of (c3.out _)) | quiet_step (first | with_reducible exact Calls.gr_of (c1.out _) | with_reducible exact Calls.gr_of (c2.out _) | with_reducible exact Calls.gr_of (c3.out _)))
  refine wpQuiet_nil ?_
  intro _ hw'
  obtain ⟨q, hw''⟩ := hw'
  subst hw''
  by_cases ht : 0 < T
  · rw [decide_eq_true ht] at g1
    have hs : signB T = 3 := by unfold signB; rw [if_pos ht]
    go_wp2
    go_ret
    exact ⟨by first | rfl | exact congrArg (fun n => Ending.returned (Value.int .i64 n)) hs.symm, (by repeat (first | exact Below.refl _ _ | (refine below_gr' ?_ (by first | omega | (simp [go_sem] <;> omega))) | (refine Below.alloc ?_ (by first | omega | (simp [go_sem] <;> omega)) _) | refine Below.drew ?_ | (refine Below.setCell ?_ (by first | omega | (simp [go_sem] <;> omega)) _)))⟩
  · rw [decide_eq_false ht] at g1
    by_cases hn : T < 0
    · rw [decide_eq_true hn] at g2
      have hs : signB T = 1 := by unfold signB; rw [if_neg ht, if_pos hn]
      go_wp2
      go_ret
      exact ⟨by first | rfl | exact congrArg (fun n => Ending.returned (Value.int .i64 n)) hs.symm, (by repeat (first | exact Below.refl _ _ | (refine below_gr' ?_ (by first | omega | (simp [go_sem] <;> omega))) | (refine Below.alloc ?_ (by first | omega | (simp [go_sem] <;> omega)) _) | refine Below.drew ?_ | (refine Below.setCell ?_ (by first | omega | (simp [go_sem] <;> omega)) _)))⟩
    · rw [decide_eq_false hn] at g2
      have hs : signB T = 2 := by unfold signB; rw [if_neg ht, if_neg hn]
      go_wp2
      go_ret
      exact ⟨by first | rfl | exact congrArg (fun n => Ending.returned (Value.int .i64 n)) hs.symm, (by repeat (first | exact Below.refl _ _ | (refine below_gr' ?_ (by first | omega | (simp [go_sem] <;> omega))) | (refine Below.alloc ?_ (by first | omega | (simp [go_sem] <;> omega)) _) | refine Below.drew ?_ | (refine Below.setCell ?_ (by first | omega | (simp [go_sem] <;> omega)) _)))⟩
end Go.Proofs.Ytpphfoggjejpiaa
