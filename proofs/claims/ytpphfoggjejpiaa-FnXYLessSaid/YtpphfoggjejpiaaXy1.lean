/-
  The law on the order of places: a place is less just if its X is, or X is equal and its Y is. Conditions: none.
-/
import Derived.Test.YtpphfoggjejpiaaFc
import Derived.BigQuiet
namespace Go.Proofs.Ytpphfoggjejpiaa
open Go.RowKit Fl Go.Sort

theorem lessB_fin {a b c d : Nat} (ha : fin a = true) (hb : fin b = true) (hc : fin c = true) (hd : fin d = true) :
    lessB a b c d = (FloatKind.f64.format.order a c == some .lt || (FloatKind.f64.format.order a c == some .eq && FloatKind.f64.format.order b d == some .lt)) := by
  unfold lessB
  rw [ne_fin ha hc, lt_fin ha hc, eq_fin ha hc, lt_fin hb hd]
  by_cases h : sc a = sc c
  · simp [h]
  · simp [h]

theorem pts_two {w : World} {b off x0 y0 x1 y1 : Nat} (h0 : w.cell? ⟨b, off, none⟩ = some (.float .f64 x0)) (h1 : w.cell? ⟨b, off + 1, none⟩ = some (.float .f64 y0))
    (h2 : w.cell? ⟨b, off + 2, none⟩ = some (.float .f64 x1)) (h3 : w.cell? ⟨b, off + 3, none⟩ = some (.float .f64 y1)) : PtsAt w b off [(x0, y0), (x1, y1)] := by
  intro i hi
  have : i = 0 ∨ i = 1 := by simp at hi; omega
  rcases this with rfl | rfl
  · exact ⟨h0, h1⟩
  · exact ⟨h2, h3⟩

theorem wf_two {a b c d : Nat} (h : (a < 2 ^ 64 ∧ b < 2 ^ 64) ∧ c < 2 ^ 64 ∧ d < 2 ^ 64) : ∀ p ∈ [(a, b), (c, d)], p.1 < 2 ^ 64 ∧ p.2 < 2 ^ 64 := by
  intro p hp
  simp only [List.mem_cons, List.not_mem_nil, or_false] at hp
  rcases hp with rfl | rfl
  · exact h.1
  · exact h.2

theorem xyless_walk (a b c d : Nat) (ha : a < 2 ^ 64) (hb : b < 2 ^ 64) (hc : c < 2 ^ 64) (hd : d < 2 ^ 64) (w : World) :
    Calls Try.prog 3 #[.agg #[.float .f64 a, .float .f64 b], .agg #[.float .f64 c, .float .f64 d]] w fun e w' => e = .returned (.bool true) ∧ Below w.heap.size w w' := by
  have HB := Lib.hid (And.intro (And.intro ha hb) (And.intro hc hd))
  clear ha hb hc hd
  by_cases hf : finL [(a, b), (c, d)] = true
  · have hf' := hf
    simp only [finL, finP, List.all_cons, List.all_nil, Bool.and_true, Bool.and_eq_true] at hf'
    have hls := Lib.hid (lessB_fin hf'.1.1 hf'.1.2 hf'.2.1 hf'.2.2)
    clear hf'
    obtain ⟨L, hL⟩ : ∃ L, L = lessB a b c d := ⟨_, rfl⟩
    rw [← hL] at hls
    have hL' := Lib.hid hL
    clear hL
    have hl' : Hid ((decide ([(a, b), (c, d)].length ≤ 2000) && finL [(a, b), (c, d)]) = true) := by rw [hf]; exact Lib.hid rfl
    clear hf
    go_enter Try.func3, Try.ntmps3
    go_wp2_with fail
    refine (eList_any _ _ _ [(a, b), (c, d)] _ ?hb ?hl ?hw ?hp).mono ?rest
    case hb => simp
    case hl => simp
    case hw => exact wf_two HB.out
    case hp => exact pts_two (by go_simp) (by go_simp) (by go_simp) (by go_simp)
    case rest =>
      rw [hl'.out]
      rintro e w' ⟨rfl, hbl⟩
      obtain ⟨p, rfl⟩ := gr_of_below hbl
      go_wp2_with fail
      refine wp_region_gr' (by kernel_rfl) (by kernel_rfl) ?_
      have hls2 := Lib.hid (show lessB a b c d = _ from hL'.out.symm.trans hls.out)
      clear hls hL' hbl
      by_cases h1 : (FloatKind.f64.format.order a c == some .lt) = true
      · repeat (first | go_big_quiet_step (exact Calls.gr_of (XYLess_any _ _ _ _ _)) | quiet_step (exact Calls.gr_of (XYLess_any _ _ _ _ _)))
        refine wpQuiet_nil ?_
        intro _ hw'
        obtain ⟨q, hw''⟩ := hw'
        subst hw''
        go_wp2
        go_ret
        exact ⟨by simp [hls2.out, *], ((((Below.refl _ _).alloc (Nat.le_refl _) _).alloc (by simp) _).alloc (by simp; omega) _).trans ((gr_below _ _).mono (by simp; omega))⟩
      · have h1' : (FloatKind.f64.format.order a c == some .lt) = false := by simpa using h1
        clear h1
        by_cases h2 : (FloatKind.f64.format.order a c == some .eq) = true
        · repeat (first | go_big_quiet_step (exact Calls.gr_of (XYLess_any _ _ _ _ _)) | quiet_step (exact Calls.gr_of (XYLess_any _ _ _ _ _)))
          refine wpQuiet_nil ?_
          intro _ hw'
          obtain ⟨q, hw''⟩ := hw'
          subst hw''
          go_wp2
          go_ret
          exact ⟨by simp [hls2.out, *], ((((Below.refl _ _).alloc (Nat.le_refl _) _).alloc (by simp) _).alloc (by simp; omega) _).trans ((gr_below _ _).mono (by simp; omega))⟩
        · have h2' : (FloatKind.f64.format.order a c == some .eq) = false := by simpa using h2
          clear h2
          repeat (first | go_big_quiet_step (exact Calls.gr_of (XYLess_any _ _ _ _ _)) | quiet_step (exact Calls.gr_of (XYLess_any _ _ _ _ _)))
          refine wpQuiet_nil ?_
          intro _ hw'
          obtain ⟨q, hw''⟩ := hw'
          subst hw''
          go_wp2
          go_ret
          exact ⟨by simp [hls2.out, *], ((((Below.refl _ _).alloc (Nat.le_refl _) _).alloc (by simp) _).alloc (by simp; omega) _).trans ((gr_below _ _).mono (by simp; omega))⟩
  · have hf' : finL [(a, b), (c, d)] = false := by simpa using hf
    have hl : (decide ([(a, b), (c, d)].length ≤ 2000) && finL [(a, b), (c, d)]) = false := by rw [hf']; rfl
    have hl' := Lib.hid hl
    clear hf hf' hl
    go_enter Try.func3, Try.ntmps3
    go_wp2_with fail
    refine (eList_any _ _ _ [(a, b), (c, d)] _ ?hb ?hl ?hw ?hp).mono ?rest
    case hb => simp
    case hl => simp
    case hw => exact wf_two HB.out
    case hp => exact pts_two (by go_simp) (by go_simp) (by go_simp) (by go_simp)
    case rest =>
      rw [hl'.out]
      rintro e w' ⟨rfl, hbl⟩
      have hbl' := Lib.hid hbl
      clear hbl
      go_wp2_with fail
      go_ret
      exact ⟨rfl, ((((Below.refl _ _).alloc (Nat.le_refl _) _).alloc (by simp) _).alloc (by simp; omega) _).trans (hbl'.out.mono (by simp; omega))⟩
end Go.Proofs.Ytpphfoggjejpiaa
