/-
  The walks over maps of the plane. Conditions: as each theorem states them.
-/
import Derived.Test.YtpphfoggjejpiaaFi
import Derived.Test.YtpphfoggjejpiaaGa
import Derived.Test.YtpphfoggjejpiaaEq
import Derived.BigGuard
namespace Go.Proofs.Ytpphfoggjejpiaa
open Go.RowKit Fl Go.Sort

def mapV (a b c d e f : Nat) : Value := .agg #[.float .f64 a, .float .f64 b, .float .f64 c, .float .f64 d, .float .f64 e, .float .f64 f]
/-- The map's function over a block that holds it. -/
def mapF (B : Nat) : Value := .func (.func 129) #[] #[.pointer (some ⟨B, 0, none⟩)]
def MapAt (w : World) (B a b c d e f : Nat) : Prop := Blk w B #[.float .f64 a, .float .f64 b, .float .f64 c, .float .f64 d, .float .f64 e, .float .f64 f]

theorem mapping_any (a b c d e f : Nat) (w : World) :
    Calls Try.prog 85 #[mapV a b c d e f] w fun en w' => (∃ B, en = .returned (mapF B) ∧ MapAt w' B a b c d e f) ∧ Below w.heap.size w w' := by
  unfold mapV
  go_enter Try.func85, Try.ntmps85
  go_wp2
  go_ret
  exact ⟨⟨_, rfl, Blk.new' _ _ _ _ (by simp)⟩, (by repeat (first | exact Below.refl _ _ | (refine below_gr' ?_ (by first | omega | (simp [go_sem] <;> omega))) | (refine Below.alloc ?_ (by first | omega | (simp [go_sem] <;> omega)) _) | refine Below.drew ?_ | (refine Below.setCell ?_ (by first | omega | (simp [go_sem] <;> omega)) _)))⟩

set_option maxHeartbeats 2000000 in
set_option maxRecDepth 4000 in
theorem mapAll_any (a b c d e f : Nat) (w : World) :
    Calls Try.prog 37 #[mapV a b c d e f, .func (.func 38) #[] #[]] w fun en w' => en = .returned (.bool (wholeB a && wholeB b && wholeB c && wholeB d && wholeB e && wholeB f)) ∧ Below w.heap.size w w' := by
  unfold mapV
  obtain ⟨A, hA⟩ : ∃ A, A = wholeB a := ⟨_, rfl⟩
  obtain ⟨B, hB⟩ : ∃ B, B = wholeB b := ⟨_, rfl⟩
  obtain ⟨C, hC⟩ : ∃ C, C = wholeB c := ⟨_, rfl⟩
  obtain ⟨D, hD⟩ : ∃ D, D = wholeB d := ⟨_, rfl⟩
  obtain ⟨E, hE⟩ : ∃ E, E = wholeB e := ⟨_, rfl⟩
  obtain ⟨F, hF⟩ : ∃ F, F = wholeB f := ⟨_, rfl⟩
  have g1 := Lib.hid (fun w => gWhole_any a w)
  have g2 := Lib.hid (fun w => gWhole_any b w)
  have g3 := Lib.hid (fun w => gWhole_any c w)
  have g4 := Lib.hid (fun w => gWhole_any d w)
  have g5 := Lib.hid (fun w => gWhole_any e w)
  have g6 := Lib.hid (fun w => gWhole_any f w)
  rw [← hA] at g1
  rw [← hB] at g2
  rw [← hC] at g3
  rw [← hD] at g4
  rw [← hE] at g5
  rw [← hF] at g6
  rw [← hA, ← hB, ← hC, ← hD, ← hE, ← hF]
  clear hA hB hC hD hE hF
  rcases A with _ | _
  rotate_left 1
  rcases B with _ | _
  rotate_left 1
  rcases C with _ | _
  rotate_left 1
  rcases D with _ | _
  rotate_left 1
  rcases E with _ | _
  all_goals
    go_enter Try.func37, Try.ntmps37
    go_wp2_with (go_at_call 38; refine Calls.mono (by first | with_reducible exact g1.out _ | with_reducible exact g2.out _ | with_reducible exact g3.out _ | with_reducible exact g4.out _ | with_reducible exact g5.out _ | with_reducible exact g6.out _) ?_; rintro e w' ⟨rfl, hq⟩; obtain ⟨q, rfl⟩ := gr_of_below hq; clear hq)
    go_ret
    exact ⟨by first | rfl | simp, (by repeat (first | exact Below.refl _ _ | (refine below_gr' ?_ (by first | omega | (simp [go_sem] <;> omega))) | (refine Below.alloc ?_ (by first | omega | (simp [go_sem] <;> omega)) _) | refine Below.drew ?_ | (refine Below.setCell ?_ (by first | omega | (simp [go_sem] <;> omega)) _)))⟩

def mapR (a b c x y : Nat) : Nat := addR (addR (mulR a x) (mulR b y)) c

theorem map_bounds {A B C X Y : Int} (ka : W20 A) (kb : W20 B) (kc : W20 C) (kx : W20 X) (ky : W20 Y) : (A * X).natAbs < 2 ^ 53 ∧ (B * Y).natAbs < 2 ^ 53 ∧ (A * X + B * Y).natAbs < 2 ^ 53 ∧ (A * X + B * Y + C).natAbs < 2 ^ 53 := by
  unfold W20 at *
  have p1 := prod_bound (a := A) (b := X) (by omega) (by omega)
  have p2 := prod_bound (a := B) (b := Y) (by omega) (by omega)
  exact ⟨abs_lt_53 (by omega) (by omega), abs_lt_53 (by omega) (by omega), abs_lt_53 (by omega) (by omega), abs_lt_53 (by omega) (by omega)⟩

section
variable {a b c x y : Nat} {A B C X Y : Int} (ia : IsI a A) (ib : IsI b B) (ic : IsI c C) (ix : IsI x X) (iy : IsI y Y) (ka : W20 A) (kb : W20 B) (kc : W20 C) (kx : W20 X) (ky : W20 Y)
include ia ib ic ix iy ka kb kc kx ky
theorem mapR_I : IsI (mapR a b c x y) (A * X + B * Y + C) := by
  obtain ⟨h1, h2, h3, h4⟩ := map_bounds ka kb kc kx ky
  exact addR_I (addR_I (mulR_I ia ix h1) (mulR_I ib iy h2) h3) ic h4

theorem map_runs (t : TypeId) : (∀ w, (binOp .mul t (.float .f64 a) (.float .f64 x)).run Try.prog w = .ok (.float .f64 (mulR a x)) w) ∧ (∀ w, (binOp .mul t (.float .f64 b) (.float .f64 y)).run Try.prog w = .ok (.float .f64 (mulR b y)) w) ∧
    (∀ w, (binOp .add t (.float .f64 (mulR a x)) (.float .f64 (mulR b y))).run Try.prog w = .ok (.float .f64 (addR (mulR a x) (mulR b y))) w) ∧
    (∀ w, (binOp .add t (.float .f64 (addR (mulR a x) (mulR b y))) (.float .f64 c)).run Try.prog w = .ok (.float .f64 (mapR a b c x y)) w) := by
  obtain ⟨h1, h2, h3, h4⟩ := map_bounds ka kb kc kx ky
  exact ⟨run_mul ia ix t h1, run_mul ib iy t h2, run_add (mulR_I ia ix h1) (mulR_I ib iy h2) t h3, run_add (addR_I (mulR_I ia ix h1) (mulR_I ib iy h2) h3) ic t h4⟩
end

theorem map1_any {B a b c d e f x y : Nat} {A Bb C D E F X Y : Int} (ia : IsI a A) (ib : IsI b Bb) (ic : IsI c C) (id' : IsI d D) (ie : IsI e E) (if' : IsI f F) (ix : IsI x X) (iy : IsI y Y)
    (ka : W20 A) (kb : W20 Bb) (kc : W20 C) (kd : W20 D) (ke : W20 E) (kf : W20 F) (kx : W20 X) (ky : W20 Y) (w : World) (hB : MapAt w B a b c d e f) :
    Calls Try.prog 129 #[.agg #[.float .f64 x, .float .f64 y], .pointer (some ⟨B, 0, none⟩)] w fun en w' => en = .returned (.agg #[.float .f64 (mapR a b c x y), .float .f64 (mapR d e f x y)]) ∧ Below w.heap.size w w' := by
  have hlt := hB.lt
  have c0 : w.cell? ⟨B, 0, none⟩ = some (.float .f64 a) := by rw [hB.cell]; rfl
  have c1 : w.cell? ⟨B, 1, none⟩ = some (.float .f64 b) := by rw [hB.cell]; rfl
  have c2 : w.cell? ⟨B, 2, none⟩ = some (.float .f64 c) := by rw [hB.cell]; rfl
  have c3 : w.cell? ⟨B, 3, none⟩ = some (.float .f64 d) := by rw [hB.cell]; rfl
  have c4 : w.cell? ⟨B, 4, none⟩ = some (.float .f64 e) := by rw [hB.cell]; rfl
  have c5 : w.cell? ⟨B, 5, none⟩ = some (.float .f64 f) := by rw [hB.cell]; rfl
  obtain ⟨r1, r2, r3, r4⟩ := map_runs ia ib ic ix iy ka kb kc kx ky 22
  obtain ⟨s1, s2, s3, s4⟩ := map_runs id' ie if' ix iy kd ke kf kx ky 22
  clear hB ia ib ic id' ie if' ix iy ka kb kc kd ke kf kx ky
  go_enter Try.func129, Try.ntmps129
  go_wp2
  exact bodyPost_ret (v := .agg #[.float .f64 (mapR a b c x y), .float .f64 (mapR d e f x y)]) (by simp [results, Try.results129, go_sem]) rfl ⟨rfl, (by repeat (first | exact Below.refl _ _ | (refine below_gr' ?_ (by first | omega | (simp [go_sem] <;> omega))) | (refine Below.alloc ?_ (by first | omega | (simp [go_sem] <;> omega)) _) | refine Below.drew ?_ | (refine Below.setCell ?_ (by first | omega | (simp [go_sem] <;> omega)) _)))⟩
end Go.Proofs.Ytpphfoggjejpiaa
