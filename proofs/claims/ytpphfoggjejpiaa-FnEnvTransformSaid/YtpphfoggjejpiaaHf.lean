/-
  FnEnvTransform: its walk, continued: whole numbers. Conditions: as each theorem states them.
-/
import Derived.Test.YtpphfoggjejpiaaHe
namespace Go.Proofs.Ytpphfoggjejpiaa
open Go.RowKit Fl Go.Sort

set_option maxHeartbeats 1000000 in
/-- A map that is not along the axes: the law answers true. -/
theorem et_slant (e : En) {a b c d f g : Nat} (hR : whE e = true) (hM : (wholeB a && wholeB b && wholeB c && wholeB d && wholeB f && wholeB g) = true) (h : (FloatKind.f64.format.order b 0 != some .eq) = true ∨ ((FloatKind.f64.format.order b 0 != some .eq) = false ∧ (FloatKind.f64.format.order d 0 != some .eq) = true)) (w : World) :
    Calls Try.prog 9 #[e.p, mapV a b c d f g] w fun en w' => en = .returned (.bool true) ∧ Below w.heap.size w w' := by
  have hr := Lib.hid (fun b off cap w hlt hE => eRound_any b off cap e w hlt hE)
  have hm := Lib.hid (fun w => mapAll_any a b c d f g w)
  rw [hR] at hr
  rw [hM] at hm
  clear hR hM
  obtain ⟨E, hE⟩ : ∃ E, E = e := ⟨_, rfl⟩
  unfold En.p mapV at *
  rcases h with h | ⟨h1, h2⟩
  all_goals
    go_enter Try.func9, Try.ntmps9
    go_wp2_with (first | (go_at_call 36; refine (hr.out _ _ _ _ (by simp) ⟨by go_simp, by go_simp, by go_simp, by go_simp, by go_simp⟩).mono ?_; rintro e w' ⟨rfl, hq⟩; obtain ⟨q, rfl⟩ := gr_of_below hq; clear hq) | (go_at_call 37; refine (hm.out _).mono ?_; rintro e w' ⟨rfl, hq⟩; obtain ⟨q, rfl⟩ := gr_of_below hq; clear hq))
    go_ret
    exact ⟨rfl, (by repeat (first | exact Below.refl _ _ | (refine below_gr' ?_ (by first | omega | (simp [go_sem] <;> omega))) | (refine Below.alloc ?_ (by first | omega | (simp [go_sem] <;> omega)) _) | refine Below.drew ?_ | (refine Below.setCell ?_ (by first | omega | (simp [go_sem] <;> omega)) _)))⟩

theorem cor_none {a b c d : Nat} {v : Value} {w : World} (h : Cor ⟨a, b, c, d, false⟩ v w) : v = .slice none 0 0 := by
  rcases h with ⟨h, _⟩ | h
  · cases h
  · exact h.2

set_option maxRecDepth 8000 in
set_option maxHeartbeats 1000000 in
/-- The empty envelope. -/
theorem et_empty {na nb nc nd : Nat} {a b c d f g : Nat} (hM : (wholeB a && wholeB b && wholeB c && wholeB d && wholeB f && wholeB g) = true) (h1 : (FloatKind.f64.format.order b 0 != some .eq) = false) (h2 : (FloatKind.f64.format.order d 0 != some .eq) = false) (w : World) :
    Calls Try.prog 9 #[(⟨na, nb, nc, nd, false⟩ : En).p, mapV a b c d f g] w fun en w' => en = .returned (.bool true) ∧ Below w.heap.size w w' := by
  have hr := Lib.hid (fun b off cap w hlt hE => eRound_any b off cap ⟨na, nb, nc, nd, false⟩ w hlt hE)
  have hm := Lib.hid (fun w => mapAll_any a b c d f g w)
  have hco := Lib.hid (fun w => corners_any ⟨na, nb, nc, nd, false⟩ w)
  have htr := Lib.hid (fun w => envTrans_gen ⟨na, nb, nc, nd, false⟩ ⟨0, 0, 0, 0, false⟩ ⟨0, 0, 0, 0, false⟩ ⟨0, 0, 0, 0, false⟩ rfl rfl (a := a) (b := b) (c := c) (d := d) (f := f) (g := g) (fun B w _ => transform_none _ rfl B w) w)
  have hof := Lib.hid (fun ao c w => eOf_nil ao c w)
  have heq := Lib.hid (fun w => eEqual_any ⟨0, 0, 0, 0, false⟩ ⟨0, 0, 0, 0, false⟩ w)
  rw [show whE ⟨na, nb, nc, nd, false⟩ = true from rfl] at hr
  rw [hM] at hm
  clear hM
  unfold En.p mapV at *
  dsimp only at *
  go_enter Try.func9, Try.ntmps9
  go_wp2_with (first | (go_at_call 36; refine (hr.out _ _ _ _ (by simp) ⟨by go_simp, by go_simp, by go_simp, by go_simp, by go_simp⟩).mono ?_; rintro e w' ⟨rfl, hq⟩; obtain ⟨q, rfl⟩ := gr_of_below hq; clear hq) | (go_at_call 37; refine (hm.out _).mono ?_; rintro e w' ⟨rfl, hq⟩; obtain ⟨q, rfl⟩ := gr_of_below hq; clear hq) | (go_at_call 29; refine (hco.out _).mono ?_; rintro e w' ⟨⟨v, rfl, hv⟩, hq⟩; have hv' : v = .slice none 0 0 := cor_none hv; obtain ⟨q, rfl⟩ := gr_of_below hq; clear hq hv; subst hv'))
  refine gen_world (fun W => Blk W w.heap.size #[.bool false, .float .f64 na, .float .f64 nb, .float .f64 nc, .float .f64 nd] ∧ Blk W (w.heap.size + 1) #[.float .f64 a, .float .f64 b, .float .f64 c, .float .f64 d, .float .f64 f, .float .f64 g] ∧ Below w.heap.size w W) ⟨?bE, ?bM, ?bl⟩ ?_
  case bE => exact ((((Blk.new' _ _ _ _ (by simp)).alloc _).alloc _).gr _).of_same rfl
  case bM => exact (((Blk.new' _ _ _ _ (by simp)).alloc _).gr _).of_same rfl
  case bl => exact (by repeat (first | exact Below.refl _ _ | (refine below_gr' ?_ (by first | omega | (simp [go_sem] <;> omega))) | (refine Below.alloc ?_ (by first | omega | (simp [go_sem] <;> omega)) _) | refine Below.drew ?_ | (refine Below.setCell ?_ (by first | omega | (simp [go_sem] <;> omega)) _)))
  rintro W ⟨hBE, hBM, hBW⟩
  go_loopw [5, 30] (fun v i wr => v = .slice none 0 0 ∧ i = .int .i64 0 ∧ wr = W) (fun _ _ _ => 0)
  case atStart => exact ⟨rfl, rfl, rfl⟩
  case round =>
    obtain ⟨rfl, rfl, rfl⟩ := hrel
    have hE1 := hBE.cell
    have hM1 := hBM.cell
    have hBW' := Lib.hid hBW
    clear hBE hBM hBW
    go_wp2_with (first | (go_at_call 39; refine (htr.out _).mono ?_; rintro e w' ⟨rfl, hq⟩; obtain ⟨q, rfl⟩ := gr_of_below hq; clear hq) | (go_at_call 28; refine (hof.out _ _ _).mono ?_; rintro e w' ⟨rfl, hq⟩; obtain ⟨q, rfl⟩ := gr_of_below hq; clear hq) | (go_at_call 26; refine (heq.out _).mono ?_; rintro e w' ⟨rfl, hq⟩; obtain ⟨q, rfl⟩ := gr_of_below hq; clear hq))
    go_ret
    exact ⟨rfl, by have h1 := hBW'.out; have h2 := h1.size; repeat (first | exact h1 | (refine below_gr' ?_ (by first | omega | (simp [go_sem] <;> omega))))⟩
end Go.Proofs.Ytpphfoggjejpiaa
