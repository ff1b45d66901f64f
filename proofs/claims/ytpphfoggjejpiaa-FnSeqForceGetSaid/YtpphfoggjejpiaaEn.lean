/-
  The walks over envelopes: the least and the greatest number, growing by a place, the envelope of a list. Conditions: as each theorem states them.
-/
import Derived.Test.YtpphfoggjejpiaaFa
import Derived.Test.YtpphfoggjejpiaaFc
import Derived.Test.YtpphfoggjejpiaaTl
import Derived.BigQuiet
namespace Go.Proofs.Ytpphfoggjejpiaa
open Go.RowKit Fl Go.Sort

def gmin (a b : Nat) : Nat := if nanB a || (FloatKind.f64.format.order a b == some .lt) then a else b
def gmax (a b : Nat) : Nat := if nanB a || (FloatKind.f64.format.order a b == some .gt) then a else b

theorem gmin_any (a b : Nat) (w : World) :
    Calls Try.prog 123 #[.float .f64 a, .float .f64 b] w fun e w' => e = .returned (.float .f64 (gmin a b)) ∧ w = w' := by
  go_enter Try.func123, Try.ntmps123
  go_wp2_with (go_at_call 73; refine (isNaN_any _ _).mono ?_; rintro e w' ⟨rfl, rfl⟩)
  all_goals go_ret
  all_goals refine ⟨?_, rfl⟩
  all_goals simp [gmin, *]

theorem gmax_any (a b : Nat) (w : World) :
    Calls Try.prog 124 #[.float .f64 a, .float .f64 b] w fun e w' => e = .returned (.float .f64 (gmax a b)) ∧ w = w' := by
  go_enter Try.func124, Try.ntmps124
  go_wp2_with (go_at_call 73; refine (isNaN_any _ _).mono ?_; rintro e w' ⟨rfl, rfl⟩)
  all_goals go_ret
  all_goals refine ⟨?_, rfl⟩
  all_goals simp [gmax, *]

/-- An envelope's numbers. -/
structure En where
  a : Nat
  b : Nat
  c : Nat
  d : Nat
  ne : Bool

def En.v (e : En) : Value := .agg #[.float .f64 e.a, .float .f64 e.b, .float .f64 e.c, .float .f64 e.d, .bool e.ne]
/-- The same as the thin package has it. -/
def En.p (e : En) : Value := .agg #[.bool e.ne, .float .f64 e.a, .float .f64 e.b, .float .f64 e.c, .float .f64 e.d]

def expE (e : En) (p : Nat × Nat) : En := if e.ne then ⟨gmin e.a p.1, gmin e.b p.2, gmax e.c p.1, gmax e.d p.2, true⟩ else ⟨p.1, p.2, p.1, p.2, true⟩

theorem isEmpty_any (e : En) (w : World) :
    Calls Try.prog 121 #[e.v] w fun en w' => en = .returned (.bool (!e.ne)) ∧ Below w.heap.size w w' := by
  unfold En.v
  go_enter Try.func121, Try.ntmps121
  go_wp2
  go_ret
  exact ⟨rfl, (by repeat (first | exact Below.refl _ _ | (refine below_gr' ?_ (by first | omega | (simp [go_sem] <;> omega))) | (refine Below.alloc ?_ (by first | omega | (simp [go_sem] <;> omega)) _) | refine Below.drew ?_ | (refine Below.setCell ?_ (by first | omega | (simp [go_sem] <;> omega)) _)))⟩

theorem newUnch_any (a b c d : Nat) (w : World) :
    Calls Try.prog 122 #[.agg #[.float .f64 a, .float .f64 b], .agg #[.float .f64 c, .float .f64 d]] w fun en w' => en = .returned (.agg #[.float .f64 a, .float .f64 b, .float .f64 c, .float .f64 d, .bool true]) ∧ Below w.heap.size w w' := by
  go_enter Try.func122, Try.ntmps122
  go_wp2
  exact bodyPost_ret (v := .agg #[.float .f64 a, .float .f64 b, .float .f64 c, .float .f64 d, .bool true]) (by simp [results, Try.results122, go_sem]) rfl ⟨rfl, (by repeat (first | exact Below.refl _ _ | (refine below_gr' ?_ (by first | omega | (simp [go_sem] <;> omega))) | (refine Below.alloc ?_ (by first | omega | (simp [go_sem] <;> omega)) _) | refine Below.drew ?_ | (refine Below.setCell ?_ (by first | omega | (simp [go_sem] <;> omega)) _)))⟩

set_option maxHeartbeats 400000 in
theorem expand_any (e : En) (x y : Nat) (w : World) :
    Calls Try.prog 77 #[e.v, .agg #[.float .f64 x, .float .f64 y]] w fun en w' => en = .returned (expE e (x, y)).v ∧ Below w.heap.size w w' := by
  obtain ⟨a, b, c, d, ne⟩ := e
  have hi := fun w => isEmpty_any ⟨a, b, c, d, ne⟩ w
  unfold En.v at hi
  dsimp only at hi
  cases ne with
  | false =>
    have hi' := Lib.hid hi
    clear hi
    unfold En.v expE
    go_enter Try.func77, Try.ntmps77
    go_wp2_with (first | (go_at_call 121; refine (hi'.out _).mono ?_; rintro e w' ⟨rfl, hb⟩; obtain ⟨q, rfl⟩ := gr_of_below hb; clear hb) | (go_at_call 122; refine (newUnch_any _ _ _ _ _).mono ?_; rintro e w' ⟨rfl, hb⟩; obtain ⟨q, rfl⟩ := gr_of_below hb; clear hb))
    exact bodyPost_ret (v := .agg #[.float .f64 x, .float .f64 y, .float .f64 x, .float .f64 y, .bool true]) (by simp [results, Try.results77, go_sem]) rfl ⟨rfl, (by repeat (first | exact Below.refl _ _ | (refine below_gr' ?_ (by first | omega | (simp [go_sem] <;> omega))) | (refine Below.alloc ?_ (by first | omega | (simp [go_sem] <;> omega)) _) | refine Below.drew ?_ | (refine Below.setCell ?_ (by first | omega | (simp [go_sem] <;> omega)) _)))⟩
  | true =>
    have hi' := Lib.hid hi
    clear hi
    unfold En.v expE
    go_enter Try.func77, Try.ntmps77
    go_wp2_with (go_at_call 121; refine (hi'.out _).mono ?_; rintro e w' ⟨rfl, hb⟩; obtain ⟨q, rfl⟩ := gr_of_below hb; clear hb)
    refine wp_region_gr_tail' 27 (by kernel_rfl) (by kernel_rfl) (by kernel_rfl) ?_
    simp only [tailOps, idle, List.take_succ_cons, List.take_zero, List.drop_succ_cons, List.drop_zero, List.map_cons, List.map_nil, List.cons_append, List.nil_append]
    repeat (first | go_big_quiet_step (first | exact Calls.gr_of_same (gmin_any _ _ _) | exact Calls.gr_of_same (gmax_any _ _ _) | exact Calls.gr_of (newUnch_any _ _ _ _ _)) | quiet_step (first | exact Calls.gr_of_same (gmin_any _ _ _) | exact Calls.gr_of_same (gmax_any _ _ _) | exact Calls.gr_of (newUnch_any _ _ _ _ _)))
    refine wpQuiet_nil ?_
    intro _ hw'
    obtain ⟨q, hw''⟩ := hw'
    subst hw''
    go_wp2
    exact bodyPost_ret (v := .agg #[.float .f64 (gmin a x), .float .f64 (gmin b y), .float .f64 (gmax c x), .float .f64 (gmax d y), .bool true]) (by simp [results, Try.results77, go_sem]) rfl ⟨rfl, (by repeat (first | exact Below.refl _ _ | (refine below_gr' ?_ (by first | omega | (simp [go_sem] <;> omega))) | (refine Below.alloc ?_ (by first | omega | (simp [go_sem] <;> omega)) _) | refine Below.drew ?_ | (refine Below.setCell ?_ (by first | omega | (simp [go_sem] <;> omega)) _)))⟩
end Go.Proofs.Ytpphfoggjejpiaa
