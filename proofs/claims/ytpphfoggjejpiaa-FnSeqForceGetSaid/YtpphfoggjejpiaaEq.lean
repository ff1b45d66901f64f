/-
  The walks over envelopes, continued: the thin package's functions; the law's own tests. Conditions: as each theorem states them.
-/
import Derived.Test.YtpphfoggjejpiaaEp
namespace Go.Proofs.Ytpphfoggjejpiaa
open Go.RowKit Fl Go.Sort

def En.norm (e : En) : En := if e.ne then e else ⟨0, 0, 0, 0, false⟩
/-- The places by which an envelope is given. -/
def En.ps (e : En) : List (Nat × Nat) := if e.ne then [(e.a, e.b), (e.c, e.d)] else []
def envOf (ps : List (Nat × Nat)) : En := ps.foldl expE ⟨0, 0, 0, 0, false⟩

theorem plain_any (e : En) (w : World) :
    Calls Try.prog 75 #[e.v] w fun en w' => en = .returned e.norm.p ∧ Below w.heap.size w w' := by
  obtain ⟨a, b, c, d, ne⟩ := e
  have hm := fun w => minMax_any ⟨a, b, c, d, ne⟩ w
  cases ne with
  | false =>
    unfold En.v En.ends at hm
    dsimp only at hm
    have hm' := Lib.hid hm
    clear hm
    unfold En.v En.norm En.p
    go_enter Try.func75, Try.ntmps75
    go_wp2_with (go_at_call 120; refine (hm'.out _).mono ?_; rintro e w' ⟨rfl, hb⟩; obtain ⟨q, rfl⟩ := gr_of_below hb; clear hb)
    exact bodyPost_ret (v := .agg #[.bool false, .float .f64 0, .float .f64 0, .float .f64 0, .float .f64 0]) (by simp [results, Try.results75, go_sem]) rfl ⟨rfl, (by repeat (first | exact Below.refl _ _ | (refine below_gr' ?_ (by first | omega | (simp [go_sem] <;> omega))) | (refine Below.alloc ?_ (by first | omega | (simp [go_sem] <;> omega)) _) | refine Below.drew ?_ | (refine Below.setCell ?_ (by first | omega | (simp [go_sem] <;> omega)) _)))⟩
  | true =>
    unfold En.v En.ends at hm
    dsimp only at hm
    have hm' := Lib.hid hm
    clear hm
    unfold En.v En.norm En.p
    go_enter Try.func75, Try.ntmps75
    go_wp2_with (go_at_call 120; refine (hm'.out _).mono ?_; rintro e w' ⟨rfl, hb⟩; obtain ⟨q, rfl⟩ := gr_of_below hb; clear hb)
    exact bodyPost_ret (v := .agg #[.bool true, .float .f64 a, .float .f64 b, .float .f64 c, .float .f64 d]) (by simp [results, Try.results75, go_sem]) rfl ⟨rfl, (by repeat (first | exact Below.refl _ _ | (refine below_gr' ?_ (by first | omega | (simp [go_sem] <;> omega))) | (refine Below.alloc ?_ (by first | omega | (simp [go_sem] <;> omega)) _) | refine Below.drew ?_ | (refine Below.setCell ?_ (by first | omega | (simp [go_sem] <;> omega)) _)))⟩

theorem envExpand_any (e : En) (x y : Nat) (w : World) :
    Calls Try.prog 27 #[e.p, .agg #[.float .f64 x, .float .f64 y]] w fun en w' => en = .returned (expE (envOf e.ps) (x, y)).norm.p ∧ Below w.heap.size w w' := by
  obtain ⟨r, hr⟩ : ∃ r, r = envOf e.ps := ⟨_, rfl⟩
  obtain ⟨s, hs⟩ : ∃ s, s = expE r (x, y) := ⟨_, rfl⟩
  obtain ⟨u, hu⟩ : ∃ u, u = s.norm := ⟨_, rfl⟩
  have h1 := Lib.hid (fun w => envelope_any e w)
  have h2 := Lib.hid (fun w => expand_any r x y w)
  have h3 := Lib.hid (fun w => plain_any s w)
  have er : (if e.ne then [(e.a, e.b), (e.c, e.d)] else []).foldl expE ⟨0, 0, 0, 0, false⟩ = r := hr.symm
  rw [er] at h1
  rw [← hs] at h2
  rw [← hu] at h3
  rw [← hr, ← hs, ← hu]
  clear er hr hs hu
  unfold En.v at h1 h2 h3
  unfold En.p at h1 h3 ⊢
  go_enter Try.func27, Try.ntmps27
  go_wp2_with fail
  refine wp_region_gr_tail 6 (by kernel_rfl) (by kernel_rfl) (by kernel_rfl) ?_
  simp only [tailOps, idle, List.take_succ_cons, List.take_zero, List.drop_succ_cons, List.drop_zero, List.map_cons, List.map_nil, List.cons_append, List.nil_append]
  repeat (first | go_big_quiet_step (first | exact Calls.gr_of (h1.out _) | exact Calls.gr_of (xy_any _ _ _) | exact Calls.gr_of (h2.out _) | exact Calls.gr_of (h3.out _)) | quiet_step (first | exact Calls.gr_of (h1.out _) | exact Calls.gr_of (xy_any _ _ _) | exact Calls.gr_of (h2.out _) | exact Calls.gr_of (h3.out _)))
  refine wpQuiet_nil ?_
  intro _ hw'
  obtain ⟨q, hw''⟩ := hw'
  subst hw''
  go_wp2
  exact bodyPost_ret (v := .agg #[.bool u.ne, .float .f64 u.a, .float .f64 u.b, .float .f64 u.c, .float .f64 u.d]) (by simp [results, Try.results27, go_sem]) rfl ⟨rfl, (by repeat (first | exact Below.refl _ _ | (refine below_gr' ?_ (by first | omega | (simp [go_sem] <;> omega))) | (refine Below.alloc ?_ (by first | omega | (simp [go_sem] <;> omega)) _) | refine Below.drew ?_ | (refine Below.setCell ?_ (by first | omega | (simp [go_sem] <;> omega)) _)))⟩

/-- Both empty, or equal ends. -/
def eqE (e f : En) : Bool := if e.ne && f.ne then (FloatKind.f64.format.order e.a f.a == some .eq) && (FloatKind.f64.format.order e.b f.b == some .eq) && (FloatKind.f64.format.order e.c f.c == some .eq) && (FloatKind.f64.format.order e.d f.d == some .eq) else e.ne == f.ne

theorem eEqual_any (e f : En) (w : World) :
    Calls Try.prog 26 #[e.p, f.p] w fun en w' => en = .returned (.bool (eqE e f)) ∧ Below w.heap.size w w' := by
  obtain ⟨a, b, c, d, ne⟩ := e
  obtain ⟨a', b', c', d', ne'⟩ := f
  unfold En.p eqE
  cases ne <;> cases ne'
  · go_enter Try.func26, Try.ntmps26
    go_wp2
    go_ret
    exact ⟨rfl, (by repeat (first | exact Below.refl _ _ | (refine below_gr' ?_ (by first | omega | (simp [go_sem] <;> omega))) | (refine Below.alloc ?_ (by first | omega | (simp [go_sem] <;> omega)) _) | refine Below.drew ?_ | (refine Below.setCell ?_ (by first | omega | (simp [go_sem] <;> omega)) _)))⟩
  · go_enter Try.func26, Try.ntmps26
    go_wp2
    go_ret
    exact ⟨rfl, (by repeat (first | exact Below.refl _ _ | (refine below_gr' ?_ (by first | omega | (simp [go_sem] <;> omega))) | (refine Below.alloc ?_ (by first | omega | (simp [go_sem] <;> omega)) _) | refine Below.drew ?_ | (refine Below.setCell ?_ (by first | omega | (simp [go_sem] <;> omega)) _)))⟩
  · go_enter Try.func26, Try.ntmps26
    go_wp2
    go_ret
    exact ⟨rfl, (by repeat (first | exact Below.refl _ _ | (refine below_gr' ?_ (by first | omega | (simp [go_sem] <;> omega))) | (refine Below.alloc ?_ (by first | omega | (simp [go_sem] <;> omega)) _) | refine Below.drew ?_ | (refine Below.setCell ?_ (by first | omega | (simp [go_sem] <;> omega)) _)))⟩
  · go_enter Try.func26, Try.ntmps26
    go_wp2
    all_goals go_ret
    all_goals exact ⟨by simp [*], (by repeat (first | exact Below.refl _ _ | (refine below_gr' ?_ (by first | omega | (simp [go_sem] <;> omega))) | (refine Below.alloc ?_ (by first | omega | (simp [go_sem] <;> omega)) _) | refine Below.drew ?_ | (refine Below.setCell ?_ (by first | omega | (simp [go_sem] <;> omega)) _)))⟩
end Go.Proofs.Ytpphfoggjejpiaa
