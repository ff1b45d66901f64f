/-
  The walks over envelopes, continued: the thin package's envelopes. Conditions: as each theorem states them.
-/
import Derived.Test.YtpphfoggjejpiaaEo
namespace Go.Proofs.Ytpphfoggjejpiaa
open Go.RowKit Fl Go.Sort

/-- An envelope's ends as a tuple; zeros where there are none. -/
def En.ends (e : En) : Value := if e.ne then .tuple #[.agg #[.float .f64 e.a, .float .f64 e.b], .agg #[.float .f64 e.c, .float .f64 e.d], .bool true] else .tuple #[.agg #[.float .f64 0, .float .f64 0], .agg #[.float .f64 0, .float .f64 0], .bool false]

theorem minMax_any (e : En) (w : World) :
    Calls Try.prog 120 #[e.v] w fun en w' => en = .returned e.ends ∧ Below w.heap.size w w' := by
  obtain ⟨a, b, c, d, ne⟩ := e
  have hi := fun w => isEmpty_any ⟨a, b, c, d, ne⟩ w
  unfold En.v at hi
  dsimp only at hi
  have hi' := Lib.hid hi
  clear hi
  unfold En.v En.ends
  cases ne with
  | false =>
    go_enter Try.func120, Try.ntmps120
    go_wp2_with (go_at_call 121; refine (hi'.out _).mono ?_; rintro e w' ⟨rfl, hb⟩; obtain ⟨q, rfl⟩ := gr_of_below hb; clear hb)
    exact bodyPost_ret (v := .tuple #[.agg #[.float .f64 0, .float .f64 0], .agg #[.float .f64 0, .float .f64 0], .bool false]) (by simp [results, Try.results120, go_sem]) rfl ⟨rfl, (by repeat (first | exact Below.refl _ _ | (refine below_gr' ?_ (by first | omega | (simp [go_sem] <;> omega))) | (refine Below.alloc ?_ (by first | omega | (simp [go_sem] <;> omega)) _) | refine Below.drew ?_ | (refine Below.setCell ?_ (by first | omega | (simp [go_sem] <;> omega)) _)))⟩
  | true =>
    go_enter Try.func120, Try.ntmps120
    go_wp2_with (go_at_call 121; refine (hi'.out _).mono ?_; rintro e w' ⟨rfl, hb⟩; obtain ⟨q, rfl⟩ := gr_of_below hb; clear hb)
    go_region
    all_goals go_wp2
    all_goals exact bodyPost_ret (v := .tuple #[.agg #[.float .f64 a, .float .f64 b], .agg #[.float .f64 c, .float .f64 d], .bool true]) (by simp [results, Try.results120, go_sem]) rfl ⟨rfl, (by repeat (first | exact Below.refl _ _ | (refine below_gr' ?_ (by first | omega | (simp [go_sem] <;> omega))) | (refine Below.alloc ?_ (by first | omega | (simp [go_sem] <;> omega)) _) | refine Below.drew ?_ | (refine Below.setCell ?_ (by first | omega | (simp [go_sem] <;> omega)) _)))⟩

theorem envelope_any (e : En) (w : World) :
    Calls Try.prog 76 #[e.p] w fun en w' => en = .returned ((if e.ne then [(e.a, e.b), (e.c, e.d)] else []).foldl expE ⟨0, 0, 0, 0, false⟩).v ∧ Below w.heap.size w w' := by
  obtain ⟨a, b, c, d, ne⟩ := e
  cases ne with
  | false =>
    unfold En.p En.v
    go_enter Try.func76, Try.ntmps76
    go_wp2
    exact bodyPost_ret (v := .agg #[.float .f64 0, .float .f64 0, .float .f64 0, .float .f64 0, .bool false]) (by simp [results, Try.results76, go_sem]) rfl ⟨rfl, (by repeat (first | exact Below.refl _ _ | (refine below_gr' ?_ (by first | omega | (simp [go_sem] <;> omega))) | (refine Below.alloc ?_ (by first | omega | (simp [go_sem] <;> omega)) _) | refine Below.drew ?_ | (refine Below.setCell ?_ (by first | omega | (simp [go_sem] <;> omega)) _)))⟩
  | true =>
    obtain ⟨r, hr⟩ : ∃ r, r = (if (true : Bool) then [(a, b), (c, d)] else []).foldl expE ⟨0, 0, 0, 0, false⟩ := ⟨_, rfl⟩
    dsimp only
    rw [← hr]
    have hr' := Lib.hid hr
    clear hr
    unfold En.p
    go_enter Try.func76, Try.ntmps76
    go_wp2_with fail
    refine (newEnv_any _ _ _ [(a, b), (c, d)] _ ?hb ?hl ?hp).mono ?rest
    case hb => simp
    case hl => simp
    case hp => exact pts_two (by go_simp) (by go_simp) (by go_simp) (by go_simp)
    case rest =>
      rintro e w' ⟨rfl, hbl⟩
      obtain ⟨p, rfl⟩ := gr_of_below hbl
      clear hbl
      have e1 : [(a, b), (c, d)].foldl expE ⟨0, 0, 0, 0, false⟩ = r := hr'.out.symm
      rw [e1]
      clear e1
      unfold En.v
      go_wp2
      exact bodyPost_ret (v := .agg #[.float .f64 r.a, .float .f64 r.b, .float .f64 r.c, .float .f64 r.d, .bool r.ne]) (by simp [results, Try.results76, go_sem]) rfl ⟨rfl, (by repeat (first | exact Below.refl _ _ | (refine below_gr' ?_ (by first | omega | (simp [go_sem] <;> omega))) | (refine Below.alloc ?_ (by first | omega | (simp [go_sem] <;> omega)) _) | refine Below.drew ?_ | (refine Below.setCell ?_ (by first | omega | (simp [go_sem] <;> omega)) _)))⟩
end Go.Proofs.Ytpphfoggjejpiaa
