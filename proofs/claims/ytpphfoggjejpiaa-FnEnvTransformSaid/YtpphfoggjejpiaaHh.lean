/-
  FnEnvTransform: its plain law; the law answers true. Conditions: as each theorem states them.
-/
import Derived.Test.YtpphfoggjejpiaaHg
import Derived.Test.YtpphfoggjejpiaaEt
namespace Go.Proofs.Ytpphfoggjejpiaa
open Go.ChangeShapes Go.WideShapes Go.ChangeAt Go.RowKit Fl Go.Sort

theorem gmin_I {a b : Nat} {A B : Int} (h1 : IsI a A) (h2 : IsI b B) : IsI (gmin a b) (min A B) := by
  unfold gmin
  rw [nanB_fin h1.fin, Bool.false_or, lt_I h1 h2]
  by_cases h : A < B
  · rw [decide_eq_true h, if_pos rfl, Int.min_eq_left (by omega)]; exact h1
  · rw [decide_eq_false h, if_neg (by simp), Int.min_eq_right (by omega)]; exact h2

theorem gmax_I {a b : Nat} {A B : Int} (h1 : IsI a A) (h2 : IsI b B) : IsI (gmax a b) (max A B) := by
  unfold gmax
  rw [nanB_fin h1.fin, Bool.false_or, gt_I h1 h2]
  by_cases h : B < A
  · rw [decide_eq_true h, if_pos rfl, Int.max_eq_left (by omega)]; exact h1
  · rw [decide_eq_false h, if_neg (by simp), Int.max_eq_right (by omega)]; exact h2

theorem low_I {a p : Nat} {A P : Int} (h1 : IsI a A) (h2 : IsI p P) : IsI (if FloatKind.f64.format.order p a == some .lt then p else a) (min A P) := by
  rw [lt_I h2 h1]
  by_cases h : P < A
  · rw [decide_eq_true h, if_pos rfl, Int.min_eq_right (by omega)]; exact h2
  · rw [decide_eq_false h, if_neg (by simp), Int.min_eq_left (by omega)]; exact h1

theorem high_I {a p : Nat} {A P : Int} (h1 : IsI a A) (h2 : IsI p P) : IsI (if FloatKind.f64.format.order p a == some .gt then p else a) (max A P) := by
  rw [gt_I h2 h1]
  by_cases h : A < P
  · rw [decide_eq_true h, if_pos rfl, Int.max_eq_right (by omega)]; exact h2
  · rw [decide_eq_false h, if_neg (by simp), Int.max_eq_left (by omega)]; exact h1

theorem eqF_I {a b : Nat} {A B : Int} (h1 : IsI a A) (h2 : IsI b B) (h : A = B) : (FloatKind.f64.format.order a b == some .eq) = true := by
  rw [eq_I h1 h2]; exact decide_eq_true h

theorem mul_min (A C x z : Int) : min (A * min x z + C) (A * max x z + C) = min (A * x + C) (A * z + C) := by
  by_cases h : x ≤ z
  · rw [Int.min_eq_left h, Int.max_eq_right h]
  · rw [Int.min_eq_right (a := x) (b := z) (by omega), Int.max_eq_left (a := x) (b := z) (by omega), Int.min_comm]

theorem mul_max (A C x z : Int) : max (A * min x z + C) (A * max x z + C) = max (A * x + C) (A * z + C) := by
  by_cases h : x ≤ z
  · rw [Int.min_eq_left h, Int.max_eq_right h]
  · rw [Int.min_eq_right (a := x) (b := z) (by omega), Int.max_eq_left (a := x) (b := z) (by omega), Int.max_comm]

theorem w20_min {a b : Int} (h1 : W20 a) (h2 : W20 b) : W20 (min a b) := by unfold W20 at *; omega
theorem w20_max {a b : Int} (h1 : W20 a) (h2 : W20 b) : W20 (max a b) := by unfold W20 at *; omega

theorem envOf_EnI {na nb nc nd : Nat} {X Y Z T : Int} (hn : EnI ⟨na, nb, nc, nd, true⟩ X Y Z T) : EnI (envOf [(na, nb), (nc, nd)]) (min X Z) (min Y T) (max X Z) (max Y T) :=
  ⟨gmin_I hn.a hn.c, gmin_I hn.b hn.d, gmax_I hn.a hn.c, gmax_I hn.b hn.d, w20_min hn.ka hn.kc, w20_min hn.kb hn.kd, w20_max hn.ka hn.kc, w20_max hn.kb hn.kd⟩

theorem lawP_I {A C E F X Y : Int} (kA : W20 A) (kC : W20 C) (kE : W20 E) (kF : W20 F) (kX : W20 X) (kY : W20 Y) : IsI (lawP A C E F X Y).1 (A * X + C) ∧ IsI (lawP A C E F X Y).2 (E * Y + F) := by
  unfold W20 at *
  have p1 := prod_bound (a := A) (b := X) (by omega) (by omega)
  have p2 := prod_bound (a := E) (b := Y) (by omega) (by omega)
  exact ⟨(of_int _ (abs_lt_53 (by omega) (by omega))).1, (of_int _ (abs_lt_53 (by omega) (by omega))).1⟩

theorem et_plain {na nb nc nd : Nat} {X Y Z T : Int} (hn : EnI ⟨na, nb, nc, nd, true⟩ X Y Z T) {a b c d f g : Nat} {A C E F : Int} (hmp : MapI a b c d f g A 0 C 0 E F) :
    eqE (tE a b c d f g (envOf [(na, nb), (nc, nd)])).norm (boxOf [lawP A C E F X Y, lawP A C E F Z T]) = true := by
  have he := envOf_EnI hn
  obtain ⟨l1, l2⟩ := lawP_I hmp.ka hmp.kc hmp.ke hmp.kf hn.ka hn.kb
  obtain ⟨l3, l4⟩ := lawP_I hmp.ka hmp.kc hmp.ke hmp.kf hn.kc hn.kd
  have u1 := mapR_I hmp.a hmp.b hmp.c he.a he.b hmp.ka hmp.kb hmp.kc he.ka he.kb
  have u2 := mapR_I hmp.d hmp.e hmp.f he.a he.b hmp.kd hmp.ke hmp.kf he.ka he.kb
  have v1 := mapR_I hmp.a hmp.b hmp.c he.c he.d hmp.ka hmp.kb hmp.kc he.kc he.kd
  have v2 := mapR_I hmp.d hmp.e hmp.f he.c he.d hmp.kd hmp.ke hmp.kf he.kc he.kd
  simp only [Int.zero_mul, Int.add_zero, Int.zero_add] at u1 u2 v1 v2
  show (_ && _ && _ && _) = true
  simp only [Bool.and_eq_true]
  refine ⟨⟨⟨?_, ?_⟩, ?_⟩, ?_⟩
  · exact eqF_I (gmin_I u1 v1) (low_I l1 l3) (mul_min A C X Z)
  · exact eqF_I (gmin_I u2 v2) (low_I l2 l4) (mul_min E F Y T)
  · exact eqF_I (gmax_I u1 v1) (high_I l1 l3) (mul_max A C X Z)
  · exact eqF_I (gmax_I u2 v2) (high_I l2 l4) (mul_max E F Y T)

theorem whole_W {x : Nat} (h : wholeB x = true) : ∃ n : Int, IsI x n ∧ W20 n := by
  obtain ⟨n, h1, h2, h3⟩ := whole_I h
  exact ⟨n, h1, h2, h3⟩

theorem et_true (e : En) (a b c d f g : Nat) (w : World) :
    Calls Try.prog 9 #[e.p, mapV a b c d f g] w fun en w' => en = .returned (.bool true) ∧ Below w.heap.size w w' := by
  by_cases h : (whE e && (wholeB a && wholeB b && wholeB c && wholeB d && wholeB f && wholeB g)) = true
  · obtain ⟨hR, hM⟩ := Bool.and_eq_true_iff.1 h
    have hM' := hM
    simp only [Bool.and_eq_true] at hM'
    obtain ⟨⟨⟨⟨⟨m1, m2⟩, m3⟩, m4⟩, m5⟩, m6⟩ := hM'
    obtain ⟨A, iA, kA⟩ := whole_W m1
    obtain ⟨B, iB, kB⟩ := whole_W m2
    obtain ⟨C, iC, kC⟩ := whole_W m3
    obtain ⟨D, iD, kD⟩ := whole_W m4
    obtain ⟨E, iE, kE⟩ := whole_W m5
    obtain ⟨F, iF, kF⟩ := whole_W m6
    have nB := ne_I iB isI_zero
    have nD := ne_I iD isI_zero
    by_cases hB : B = 0
    · subst hB
      by_cases hD : D = 0
      · subst hD
        have h1 : (FloatKind.f64.format.order b 0 != some .eq) = false := by rw [nB]; simp
        have h2 : (FloatKind.f64.format.order d 0 != some .eq) = false := by rw [nD]; simp
        obtain ⟨na, nb, nc, nd, ne⟩ := e
        cases ne with
        | false => exact et_empty hM h1 h2 w
        | true =>
          have hR' := hR
          unfold whE at hR'
          simp only [Bool.not_true, Bool.false_or, Bool.and_eq_true] at hR'
          obtain ⟨⟨⟨e1, e2⟩, e3⟩, e4⟩ := hR'
          obtain ⟨X, iX, kX⟩ := whole_W e1
          obtain ⟨Y, iY, kY⟩ := whole_W e2
          obtain ⟨Z, iZ, kZ⟩ := whole_W e3
          obtain ⟨T, iT, kT⟩ := whole_W e4
          have hn : EnI ⟨na, nb, nc, nd, true⟩ X Y Z T := ⟨iX, iY, iZ, iT, kX, kY, kZ, kT⟩
          have hmp : MapI a b c d f g A 0 C 0 E F := ⟨iA, iB, iC, iD, iE, iF, kA, kB, kC, kD, kE, kF⟩
          have hmain := et_main hn hmp (tE a b c d f g (envOf [(na, nb), (nc, nd)])).norm hR hM h1 h2
            (fun w => envTrans_gen ⟨na, nb, nc, nd, true⟩ (envOf [(na, nb), (nc, nd)]) (tE a b c d f g (envOf [(na, nb), (nc, nd)])) _ rfl rfl (fun B w hB => transform_some rfl (envOf_EnI hn) hmp w hB) w) w
          rw [et_plain hn hmp] at hmain
          exact hmain
      · exact et_slant e hR hM (.inr ⟨by rw [nB]; simp, by rw [nD]; simpa using hD⟩) w
    · exact et_slant e hR hM (.inl (by rw [nB]; simpa using hB)) w
  · exact et_out e a b c d f g (by simpa using h) w

section
variable {H : Type} {enc : TypeId × Value → H}
variable {w : World} {base b0 : Nat} {spare : Nat → Bool} {held : Bool} {v : Value} {d : DataW H} {ps : List MemPlace} {r : Reach}

theorem cellsMap : Try.prog.cellsOf 63 = 6 := by kernel_rfl

theorem array6 {α : Type} {cs : Array α} (h : cs.size = 6) : ∃ c0 c1 c2 c3 c4 c5, cs = #[c0, c1, c2, c3, c4, c5] := by
  obtain ⟨l⟩ := cs
  match l, h with
  | [c0, c1, c2, c3, c4, c5], _ => exact ⟨c0, c1, c2, c3, c4, c5, rfl⟩

set_option maxRecDepth 100000 in
/-- A map as an argument. -/
theorem open_map (hval : Value.okWide Try.prog w r b0 63 v) (h : DataW.Trod enc Try.prog w base spare held 63 v d ps) : ∃ a b c e f g, v = mapV a b c e f g := by
  obtain ⟨cs, rfl, hsz⟩ := okWide_struct Try.underlying63 hval
  obtain ⟨c0, c1, c2, c3, c4, c5, rfl⟩ := array6 (hsz.trans cellsMap)
  obtain ⟨fuel, hf⟩ := h
  obtain ⟨xs, n, _, _, hl, hlen, hff⟩ := DataW.trod_struct Try.underlying63 hf
  match xs, hlen with
  | [y0, y1, y2, y3, y4, y5], _ =>
    have g0 := hff 0 _ rfl
    have g1 := hff 1 _ rfl
    have g2 := hff 2 _ rfl
    have g3 := hff 3 _ rfl
    have g4 := hff 4 _ rfl
    have g5 := hff 5 _ rfl
    simp only [Value.cells, show Try.prog.cellsOf 22 = 1 by kernel_rfl, List.getElem_toArray, List.getElem_cons_zero, List.getElem_cons_succ, List.drop_zero, List.take_succ_cons, List.take_zero, List.drop_succ_cons, List.getElem?_cons_zero, List.getElem?_cons_succ] at g0 g1 g2 g3 g4 g5
    obtain ⟨a, f0, _, _⟩ := trod_float Try.underlying22 g0
    obtain ⟨b, f1, _, _⟩ := trod_float Try.underlying22 g1
    obtain ⟨c, f2, _, _⟩ := trod_float Try.underlying22 g2
    obtain ⟨e, f3, _, _⟩ := trod_float Try.underlying22 g3
    obtain ⟨f, f4, _, _⟩ := trod_float Try.underlying22 g4
    obtain ⟨g, f5, _, _⟩ := trod_float Try.underlying22 g5
    simp only [List.cons.injEq, and_true] at f0 f1 f2 f3 f4 f5
    subst f0 f1 f2 f3 f4 f5
    exact ⟨a, b, c, e, f, g, rfl⟩
end
end Go.Proofs.Ytpphfoggjejpiaa
