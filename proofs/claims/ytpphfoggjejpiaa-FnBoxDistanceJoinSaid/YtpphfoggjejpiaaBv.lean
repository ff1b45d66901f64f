/-
  The law on boxes joined: the plain part, and its walk. Conditions: none.
-/
import Derived.Test.YtpphfoggjejpiaaBw
namespace Go.Proofs.Ytpphfoggjejpiaa
open Go.RowKit Fl Go.Sort

def tBoxB (a b c d : Nat) : Bool := (wholeB a && wholeB b && wholeB c && wholeB d) && leB a c && leB b d

theorem tBox_any (a b c d : Nat) (w : World) :
    Calls Try.prog 19 #[boxV a b c d] w fun e w' => e = .returned (.bool (tBoxB a b c d)) ∧ Below w.heap.size w w' := by
  have he := fun w => eWhole_any a b c d w
  unfold boxV at *
  obtain ⟨E, hE⟩ : ∃ E, E = (wholeB a && wholeB b && wholeB c && wholeB d) := ⟨_, rfl⟩
  rw [← hE] at he
  have ht : tBoxB a b c d = (E && leB a c && leB b d) := by rw [hE]; rfl
  rw [ht]
  clear ht hE
  have he' := Lib.hid he
  clear he
  go_enter Try.func19, Try.ntmps19
  go_wp2_with (go_at_call 66; refine (he'.out _).mono ?_; rintro e w' ⟨rfl, hb⟩; obtain ⟨q, rfl⟩ := gr_of_below hb; clear hb)
  all_goals go_ret
  all_goals refine ⟨?_, (by repeat (first | exact Below.refl _ _ | (refine below_gr' ?_ (by simp [go_sem] <;> omega)) | (refine Below.alloc ?_ (by simp [go_sem] <;> omega) _) | refine Below.drew ?_ | (refine Below.setCell ?_ (by simp [go_sem] <;> omega) _)))⟩
  all_goals simp [leB, *]

theorem sm_of_whole {x : Nat} (h : wholeB x = true) : ∃ n, Sm x n := by
  obtain ⟨n, h1, h2, h3⟩ := whole_I h
  exact ⟨n, h1, h2, h3⟩

theorem sm_of_tBox {a b c d : Nat} (h : tBoxB a b c d = true) : ∃ A B C D, Sm a A ∧ Sm b B ∧ Sm c C ∧ Sm d D := by
  unfold tBoxB at h
  simp only [Bool.and_eq_true] at h
  obtain ⟨A, hA⟩ := sm_of_whole h.1.1.1.1.1
  obtain ⟨B, hB⟩ := sm_of_whole h.1.1.1.1.2
  obtain ⟨C, hC⟩ := sm_of_whole h.1.1.1.2
  obtain ⟨D, hD⟩ := sm_of_whole h.1.1.2
  exact ⟨A, B, C, D, hA, hB, hC, hD⟩

theorem minR_Sm {x y : Nat} {a b : Int} (hx : Sm x a) (hy : Sm y b) : Sm (minR x y) (if a < b then a else b) :=
  ⟨minR_I hx.i hy.i, by have := hx.lo; have := hy.lo; split <;> omega, by have := hx.hi; have := hy.hi; split <;> omega⟩
theorem maxR_Sm {x y : Nat} {a b : Int} (hx : Sm x a) (hy : Sm y b) : Sm (maxR x y) (if b < a then a else b) :=
  ⟨maxR_I hx.i hy.i, by have := hx.lo; have := hy.lo; split <;> omega, by have := hx.hi; have := hy.hi; split <;> omega⟩

def distI (a0 b0 a1 b1 c0 d0 c1 d1 : Int) : Int := gapI a0 a1 c0 c1 * gapI a0 a1 c0 c1 + gapI b0 b1 d0 d1 * gapI b0 b1 d0 d1

theorem distR_I {a0 b0 a1 b1 c0 d0 c1 d1 : Nat} {A0 B0 A1 B1 C0 D0 C1 D1 : Int} (ha0 : Sm a0 A0) (hb0 : Sm b0 B0) (ha1 : Sm a1 A1) (hb1 : Sm b1 B1) (hc0 : Sm c0 C0) (hd0 : Sm d0 D0) (hc1 : Sm c1 C1) (hd1 : Sm d1 D1) :
    IsI (distR a0 b0 a1 b1 c0 d0 c1 d1) (distI A0 B0 A1 B1 C0 D0 C1 D1) := by
  have g1 := gapR_I ha0 ha1 hc0 hc1
  have g2 := gapR_I hb0 hb1 hd0 hd1
  have r1 := gapI_range ⟨ha0.lo, ha0.hi⟩ ⟨ha1.lo, ha1.hi⟩ ⟨hc0.lo, hc0.hi⟩ ⟨hc1.lo, hc1.hi⟩
  have r2 := gapI_range ⟨hb0.lo, hb0.hi⟩ ⟨hb1.lo, hb1.hi⟩ ⟨hd0.lo, hd0.hi⟩ ⟨hd1.lo, hd1.hi⟩
  have q1 := sq_lt r1.1 r1.2
  have q2 := sq_lt r2.1 r2.2
  exact addR_I (mulR_I g1 g1 (abs_lt_53 (by omega) (by omega))) (mulR_I g2 g2 (abs_lt_53 (by omega) (by omega))) (abs_lt_53 (by omega) (by omega))

theorem gapI_mono {a0 a1 j0 j1 c0 c1 : Int} (h0 : j0 ≤ a0) (h1 : a1 ≤ j1) : 0 ≤ gapI j0 j1 c0 c1 ∧ gapI j0 j1 c0 c1 ≤ gapI a0 a1 c0 c1 := by
  unfold gapI; constructor
  · split <;> omega
  · split <;> split <;> (repeat split) <;> omega

theorem distI_mono {a0 b0 a1 b1 j0 k0 j1 k1 c0 d0 c1 d1 : Int} (h0 : j0 ≤ a0) (h1 : a1 ≤ j1) (h2 : k0 ≤ b0) (h3 : b1 ≤ k1) : distI j0 k0 j1 k1 c0 d0 c1 d1 ≤ distI a0 b0 a1 b1 c0 d0 c1 d1 := by
  have m1 := gapI_mono (c0 := c0) (c1 := c1) h0 h1
  have m2 := gapI_mono (c0 := d0) (c1 := d1) h2 h3
  unfold distI
  exact Int.add_le_add (Int.mul_le_mul m1.2 m1.2 m1.1 (Int.le_trans m1.1 m1.2)) (Int.mul_le_mul m2.2 m2.2 m2.1 (Int.le_trans m2.1 m2.2))

theorem leB_I {x y : Nat} {a b : Int} (hx : IsI x a) (hy : IsI y b) : leB x y = decide (a ≤ b) := le_I hx hy
theorem geB_I {x y : Nat} {a b : Int} (hx : IsI x a) (hy : IsI y b) : geB x y = decide (b ≤ a) := ge_I hx hy

/-- The facts that the law's walk asks. -/
theorem join_facts {a b c d a' b' c' d' e f g h : Nat} {A B C D A' B' C' D' E F G H : Int}
    (ha : Sm a A) (hb : Sm b B) (hc : Sm c C) (hd : Sm d D) (ha' : Sm a' A') (hb' : Sm b' B') (hc' : Sm c' C') (hd' : Sm d' D') (he : Sm e E) (hf : Sm f F) (hg : Sm g G) (hh : Sm h H) :
    (FloatKind.f64.format.order (distR (minR a a') (minR b b') (maxR c c') (maxR d d') e f g h) (distR a b c d e f g h) == some .gt) = false ∧
    (FloatKind.f64.format.order (distR (minR a a') (minR b b') (maxR c c') (maxR d d') e f g h) (distR a' b' c' d' e f g h) == some .gt) = false ∧
    (ovB (minR a a') (minR b b') (maxR c c') (maxR d d') e f g h = false → tmB a b c d e f g h = false ∧ tmB a' b' c' d' e f g h = false) := by
  have m0 := minR_Sm ha ha'
  have m1 := minR_Sm hb hb'
  have m2 := maxR_Sm hc hc'
  have m3 := maxR_Sm hd hd'
  refine ⟨?_, ?_, ?_⟩
  · rw [gt_I (distR_I m0 m1 m2 m3 he hf hg hh) (distR_I ha hb hc hd he hf hg hh)]
    have := distI_mono (c0 := E) (d0 := F) (c1 := G) (d1 := H) (a0 := A) (a1 := C) (b0 := B) (b1 := D) (j0 := if A < A' then A else A') (k0 := if B < B' then B else B') (j1 := if C' < C then C else C') (k1 := if D' < D then D else D') (by split <;> omega) (by split <;> omega) (by split <;> omega) (by split <;> omega)
    simp; exact this
  · rw [gt_I (distR_I m0 m1 m2 m3 he hf hg hh) (distR_I ha' hb' hc' hd' he hf hg hh)]
    have := distI_mono (c0 := E) (d0 := F) (c1 := G) (d1 := H) (a0 := A') (a1 := C') (b0 := B') (b1 := D') (j0 := if A < A' then A else A') (k0 := if B < B' then B else B') (j1 := if C' < C then C else C') (k1 := if D' < D then D else D') (by split <;> omega) (by split <;> omega) (by split <;> omega) (by split <;> omega)
    simp; exact this
  · unfold ovB tmB
    rw [leB_I m0.i hg.i, geB_I m2.i he.i, leB_I m1.i hh.i, geB_I m3.i hf.i, leB_I ha.i hg.i, leB_I he.i hc.i, leB_I hb.i hh.i, leB_I hf.i hd.i, leB_I ha'.i hg.i, leB_I he.i hc'.i, leB_I hb'.i hh.i, leB_I hf.i hd'.i]
    intro h0
    simp only [Bool.and_eq_false_iff, decide_eq_false_iff_not] at h0 ⊢
    constructor
    · rcases h0 with ((h0 | h0) | h0) | h0 <;> split at h0 <;> omega
    · rcases h0 with ((h0 | h0) | h0) | h0 <;> split at h0 <;> omega

set_option maxHeartbeats 1000000 in
theorem joinlaw_walk (a b c d a' b' c' d' e f g h : Nat) (w : World) :
    Calls Try.prog 5 #[boxV a b c d, boxV a' b' c' d', boxV e f g h] w fun e w' => e = .returned (.bool true) ∧ Below w.heap.size w w' := by
  by_cases h1 : tBoxB a b c d = true
  · by_cases h2 : tBoxB a' b' c' d' = true
    · by_cases h3 : tBoxB e f g h = true
      · obtain ⟨A, B, C, D, hA, hB, hC, hD⟩ := sm_of_tBox h1
        obtain ⟨A', B', C', D', hA', hB', hC', hD'⟩ := sm_of_tBox h2
        obtain ⟨E, F, G, H, hE, hF, hG, hH⟩ := sm_of_tBox h3
        obtain ⟨f1, f2, f3⟩ := join_facts hA hB hC hD hA' hB' hC' hD' hE hF hG hH
        have dJ := Lib.hid (fun w => boxDist_any (minR_Sm hA hA') (minR_Sm hB hB') (maxR_Sm hC hC') (maxR_Sm hD hD') hE hF hG hH w)
        have dA := Lib.hid (fun w => boxDist_any hA hB hC hD hE hF hG hH w)
        have dB := Lib.hid (fun w => boxDist_any hA' hB' hC' hD' hE hF hG hH w)
        clear hA hB hC hD hA' hB' hC' hD' hE hF hG hH
        unfold boxV at *
        by_cases h4 : ovB (minR a a') (minR b b') (maxR c c') (maxR d d') e f g h = true
        · clear f3
          go_enter Try.func5, Try.ntmps5
          go_wp2_with (first | (go_at_call 19; refine (tBox_any _ _ _ _ _).mono ?_; rintro e w' ⟨rfl, hb⟩; obtain ⟨q, rfl⟩ := gr_of_below hb; clear hb) | (go_at_call 20; refine (boxJoin_any _ _ _ _ _ _ _ _ _).mono ?_; rintro e w' ⟨rfl, hb⟩; obtain ⟨q, rfl⟩ := gr_of_below hb; clear hb; unfold boxV) | (go_at_call 21; first | ((with_reducible refine (dJ.out _).mono ?_); rintro e w' ⟨rfl, hb⟩; obtain ⟨q, rfl⟩ := gr_of_below hb; clear hb) | ((with_reducible refine (dA.out _).mono ?_); rintro e w' ⟨rfl, hb⟩; obtain ⟨q, rfl⟩ := gr_of_below hb; clear hb) | ((with_reducible refine (dB.out _).mono ?_); rintro e w' ⟨rfl, hb⟩; obtain ⟨q, rfl⟩ := gr_of_below hb; clear hb)) | (go_at_call 22; refine (boxesMeet_any _ _ _ _ _ _ _ _ _).mono ?_; rintro e w' ⟨rfl, hb⟩; obtain ⟨q, rfl⟩ := gr_of_below hb; clear hb) | (go_at_call 23; refine (tMeet_any _ _ _ _ _ _ _ _ _).mono ?_; rintro e w' ⟨rfl, hb⟩; obtain ⟨q, rfl⟩ := gr_of_below hb; clear hb))
          go_ret
          exact ⟨rfl, (by repeat (first | exact Below.refl _ _ | (refine below_gr' ?_ (by simp [go_sem] <;> omega)) | (refine Below.alloc ?_ (by simp [go_sem] <;> omega) _) | refine Below.drew ?_ | (refine Below.setCell ?_ (by simp [go_sem] <;> omega) _)))⟩
        · have h4' : ovB (minR a a') (minR b b') (maxR c c') (maxR d d') e f g h = false := by simpa using h4
          obtain ⟨t1, t2⟩ := f3 h4'
          clear f3 h4
          go_enter Try.func5, Try.ntmps5
          go_wp2_with (first | (go_at_call 19; refine (tBox_any _ _ _ _ _).mono ?_; rintro e w' ⟨rfl, hb⟩; obtain ⟨q, rfl⟩ := gr_of_below hb; clear hb) | (go_at_call 20; refine (boxJoin_any _ _ _ _ _ _ _ _ _).mono ?_; rintro e w' ⟨rfl, hb⟩; obtain ⟨q, rfl⟩ := gr_of_below hb; clear hb; unfold boxV) | (go_at_call 21; first | ((with_reducible refine (dJ.out _).mono ?_); rintro e w' ⟨rfl, hb⟩; obtain ⟨q, rfl⟩ := gr_of_below hb; clear hb) | ((with_reducible refine (dA.out _).mono ?_); rintro e w' ⟨rfl, hb⟩; obtain ⟨q, rfl⟩ := gr_of_below hb; clear hb) | ((with_reducible refine (dB.out _).mono ?_); rintro e w' ⟨rfl, hb⟩; obtain ⟨q, rfl⟩ := gr_of_below hb; clear hb)) | (go_at_call 22; refine (boxesMeet_any _ _ _ _ _ _ _ _ _).mono ?_; rintro e w' ⟨rfl, hb⟩; obtain ⟨q, rfl⟩ := gr_of_below hb; clear hb) | (go_at_call 23; refine (tMeet_any _ _ _ _ _ _ _ _ _).mono ?_; rintro e w' ⟨rfl, hb⟩; obtain ⟨q, rfl⟩ := gr_of_below hb; clear hb))
          go_ret
          exact ⟨rfl, (by repeat (first | exact Below.refl _ _ | (refine below_gr' ?_ (by simp [go_sem] <;> omega)) | (refine Below.alloc ?_ (by simp [go_sem] <;> omega) _) | refine Below.drew ?_ | (refine Below.setCell ?_ (by simp [go_sem] <;> omega) _)))⟩
      · have h3' : tBoxB e f g h = false := by simpa using h3
        clear h3
        unfold boxV
        go_enter Try.func5, Try.ntmps5
        go_wp2_with (go_at_call 19; refine (tBox_any _ _ _ _ _).mono ?_; rintro e w' ⟨rfl, hb⟩; obtain ⟨q, rfl⟩ := gr_of_below hb; clear hb)
        go_ret
        exact ⟨rfl, (by repeat (first | exact Below.refl _ _ | (refine below_gr' ?_ (by simp [go_sem] <;> omega)) | (refine Below.alloc ?_ (by simp [go_sem] <;> omega) _) | refine Below.drew ?_ | (refine Below.setCell ?_ (by simp [go_sem] <;> omega) _)))⟩
    · have h3' : tBoxB a' b' c' d' = false := by simpa using h2
      clear h2
      unfold boxV
      go_enter Try.func5, Try.ntmps5
      go_wp2_with (go_at_call 19; refine (tBox_any _ _ _ _ _).mono ?_; rintro e w' ⟨rfl, hb⟩; obtain ⟨q, rfl⟩ := gr_of_below hb; clear hb)
      go_ret
      exact ⟨rfl, (by repeat (first | exact Below.refl _ _ | (refine below_gr' ?_ (by simp [go_sem] <;> omega)) | (refine Below.alloc ?_ (by simp [go_sem] <;> omega) _) | refine Below.drew ?_ | (refine Below.setCell ?_ (by simp [go_sem] <;> omega) _)))⟩
  · have h3' : tBoxB a b c d = false := by simpa using h1
    clear h1
    unfold boxV
    go_enter Try.func5, Try.ntmps5
    go_wp2_with (go_at_call 19; refine (tBox_any _ _ _ _ _).mono ?_; rintro e w' ⟨rfl, hb⟩; obtain ⟨q, rfl⟩ := gr_of_below hb; clear hb)
    go_ret
    exact ⟨rfl, (by repeat (first | exact Below.refl _ _ | (refine below_gr' ?_ (by simp [go_sem] <;> omega)) | (refine Below.alloc ?_ (by simp [go_sem] <;> omega) _) | refine Below.drew ?_ | (refine Below.setCell ?_ (by simp [go_sem] <;> omega) _)))⟩
end Go.Proofs.Ytpphfoggjejpiaa
