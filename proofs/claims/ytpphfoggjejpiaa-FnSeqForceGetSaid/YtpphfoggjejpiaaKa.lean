/-
  The walks over sequences of coordinates: their types' widths, lengths, places. Conditions: as each theorem states them.
-/
import Derived.Test.YtpphfoggjejpiaaFa
import Derived.Test.YtpphfoggjejpiaaBk
import Derived.Laws.CopyOwn
import Derived.RegionTactic
import Derived.BigGuard
import Derived.BigQuiet
namespace Go.Proofs.Ytpphfoggjejpiaa
open Go.RowKit Fl Go.Sort

/-- How many numbers a place of a type has. -/
def dimN (d : Int) : Nat := if d = 0 then 2 else if d = 3 then 4 else 3
/-- The type's number is one of the four. -/
def D4 (d : Int) : Prop := d = 0 ∨ d = 1 ∨ d = 2 ∨ d = 3

theorem width_any {d : Int} (hd : D4 d) (w : World) :
    Calls Try.prog 96 #[.int .i64 d] w fun e w' => e = .returned (.int .i64 (dimN d)) ∧ Below w.heap.size w w' := by
  rcases hd with rfl | rfl | rfl | rfl
  all_goals
    go_enter Try.func96, Try.ntmps96
    go_wp2
    go_ret
    exact ⟨by kernel_rfl, (by repeat (first | exact Below.refl _ _ | (refine below_gr' ?_ (by first | omega | (simp [go_sem] <;> omega))) | (refine Below.alloc ?_ (by first | omega | (simp [go_sem] <;> omega)) _) | refine Below.drew ?_ | (refine Below.setCell ?_ (by first | omega | (simp [go_sem] <;> omega)) _)))⟩

theorem dimOf_any {d : Int} (hd : D4 d) (w : World) :
    Calls Try.prog 94 #[.int .i64 d] w fun e w' => e = .returned (.int .u8 d) ∧ Below w.heap.size w w' := by
  rcases hd with rfl | rfl | rfl | rfl
  all_goals
    go_enter Try.func94, Try.ntmps94
    go_wp2
    go_ret
    exact ⟨by kernel_rfl, (by repeat (first | exact Below.refl _ _ | (refine below_gr' ?_ (by first | omega | (simp [go_sem] <;> omega))) | (refine Below.alloc ?_ (by first | omega | (simp [go_sem] <;> omega)) _) | refine Below.drew ?_ | (refine Below.setCell ?_ (by first | omega | (simp [go_sem] <;> omega)) _)))⟩

theorem dims_at {d : Int} (hd : D4 d) (w : World) : (Instr.index 228 (.agg #[.int .i64 2, .int .i64 3, .int .i64 3, .int .i64 4]) (.int .u8 d)).run Try.prog w = .ok (.int .i64 (dimN d)) w := by
  rcases hd with rfl | rfl | rfl | rfl <;> kernel_rfl

set_option maxRecDepth 4000 in
theorem dim_any {d : Int} (hd : D4 d) (w : World) :
    Calls Try.prog 133 #[.int .u8 d] w fun e w' => e = .returned (.int .i64 (dimN d)) ∧ Below w.heap.size w w' := by
  have hx := dims_at hd
  go_enter Try.func133, Try.ntmps133
  go_wp2
  go_ret
  exact ⟨rfl, (by repeat (first | exact Below.refl _ _ | (refine below_gr' ?_ (by first | omega | (simp [go_sem] <;> omega))) | (refine Below.alloc ?_ (by first | omega | (simp [go_sem] <;> omega)) _) | refine Below.drew ?_ | (refine Below.setCell ?_ (by first | omega | (simp [go_sem] <;> omega)) _)))⟩

theorem dimN_cases (d : Int) : dimN d = 2 ∨ dimN d = 3 ∨ dimN d = 4 := by
  unfold dimN
  split
  · exact .inl rfl
  · split
    · exact .inr (.inr rfl)
    · exact .inr (.inl rfl)

/-- The cells of numbers. -/
def FsAt (w : World) (b off : Nat) (fs : List Nat) : Prop := ∀ i, i < fs.length → w.cell? ⟨b, off + i, none⟩ = some (.float .f64 (fs[i]?.getD 0))

theorem FsAt.below {w w' : World} {b off : Nat} {fs : List Nat} {K : Nat} (h : FsAt w b off fs) (hb : Below K w w') (hlt : b < K) : FsAt w' b off fs := fun i hi => by
  rw [hb.cell (p := ⟨b, off + i, none⟩) hlt]; exact h i hi

/-- A sequence as a value. -/
def seqV (d : Int) (b n cap : Nat) : Value := .agg #[.int .u8 d, .slice (some ⟨b, 0, none⟩) n cap]

theorem quo_cast (a b : Nat) : Int.tdiv (a : Int) (b : Int) = ((a / b : Nat) : Int) := rfl

theorem length_any {d : Int} (hd : D4 d) (b n cap : Nat) (hn : (n : Int) ≤ 1000000) (w : World) :
    Calls Try.prog 135 #[seqV d b n cap] w fun e w' => e = .returned (.int .i64 ((n / dimN d : Nat) : Int)) ∧ Below w.heap.size w w' := by
  have h1 := Lib.hid (fun w => dim_any hd w)
  have hm := dimN_cases d
  generalize dimN d = m at h1 hm ⊢
  unfold seqV
  rcases hm with rfl | rfl | rfl
  all_goals
    go_enter Try.func135, Try.ntmps135
    go_wp2_with fail
    refine wp_region_gr (by kernel_rfl) (by kernel_rfl) ?_
    repeat (first | go_big_quiet_step (first | with_reducible exact Calls.gr_of (h1.out _)) | quiet_step (first | with_reducible exact Calls.gr_of (h1.out _)))
    refine wpQuiet_nil ?_
    intro _ hw'
    obtain ⟨q, hw''⟩ := hw'
    subst hw''
    go_wp2
    go_ret
    exact ⟨rfl, (by repeat (first | exact Below.refl _ _ | (refine below_gr' ?_ (by first | omega | (simp [go_sem] <;> omega))) | (refine Below.alloc ?_ (by first | omega | (simp [go_sem] <;> omega)) _) | refine Below.drew ?_ | (refine Below.setCell ?_ (by first | omega | (simp [go_sem] <;> omega)) _)))⟩

theorem getXY_any {d : Int} (hd : D4 d) (b n cap i j : Nat) (x y : Nat) (hj : i * dimN d = j) (hlt : j + 1 < n) (hn : (n : Int) ≤ 1000000) (w : World) (hb : b < w.heap.size) (hc0 : w.cell? ⟨b, j, none⟩ = some (.float .f64 x)) (hc1 : w.cell? ⟨b, j + 1, none⟩ = some (.float .f64 y)) :
    Calls Try.prog 142 #[seqV d b n cap, .int .i64 i] w fun e w' => e = .returned (.agg #[.float .f64 x, .float .f64 y]) ∧ Below w.heap.size w w' := by
  have h1 := Lib.hid (fun w => dim_any hd w)
  have hm := dimN_cases d
  generalize dimN d = m at h1 hm hj ⊢
  have hj' : (i : Int) * (m : Int) = (j : Int) := by rw [← hj, Int.natCast_mul]
  have hi : (i : Int) ≤ 1000000 := by rcases hm with rfl | rfl | rfl <;> omega
  clear hj hd
  unfold seqV
  go_enter Try.func142, Try.ntmps142
  go_wp2_with (go_at_call 133; refine (h1.out _).mono ?_; rintro e w' ⟨rfl, hq⟩; obtain ⟨q, rfl⟩ := gr_of_below hq; clear hq)
  refine wp_region_gr_tail 16 (by kernel_rfl) (by kernel_rfl) (by kernel_rfl) ?_
  simp only [tailOps, idle, List.take_succ_cons, List.take_zero, List.drop_succ_cons, List.drop_zero, List.map_cons, List.map_nil, List.cons_append, List.nil_append]
  repeat (first | go_big_quiet_step (fail) | quiet_step (fail))
  refine wpQuiet_nil ?_
  intro _ hw'
  obtain ⟨q, hw''⟩ := hw'
  subst hw''
  go_wp2
  exact bodyPost_ret (v := .agg #[.float .f64 x, .float .f64 y]) (by simp [results, Try.results142, go_sem]) rfl ⟨rfl, (by repeat (first | exact Below.refl _ _ | (refine below_gr' ?_ (by first | omega | (simp [go_sem] <;> omega))) | (refine Below.alloc ?_ (by first | omega | (simp [go_sem] <;> omega)) _) | refine Below.drew ?_ | (refine Below.setCell ?_ (by first | omega | (simp [go_sem] <;> omega)) _)))⟩
end Go.Proofs.Ytpphfoggjejpiaa
