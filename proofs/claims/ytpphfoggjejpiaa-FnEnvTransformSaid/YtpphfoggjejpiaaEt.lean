/-
  FnEnvExpandXY: growing an envelope by a place gives the least box around all: the law answers true for every input. Conditions: none.
-/
import Derived.Test.YtpphfoggjejpiaaFr
import Derived.Test.YtpphfoggjejpiaaEs
namespace Go.Proofs.Ytpphfoggjejpiaa
open Go.ChangeShapes Go.WideShapes Go.ChangeAt Go.RowKit Fl

/-- Both empty, or ends with equal finite values. -/
def Sim (e f : En) : Prop := e.ne = f.ne ∧ (e.ne = true → (fin e.a = true ∧ fin f.a = true ∧ sc e.a = sc f.a) ∧ (fin e.b = true ∧ fin f.b = true ∧ sc e.b = sc f.b) ∧ (fin e.c = true ∧ fin f.c = true ∧ sc e.c = sc f.c) ∧ (fin e.d = true ∧ fin f.d = true ∧ sc e.d = sc f.d))

theorem sim_low {a a' p : Nat} (h : fin a = true ∧ fin a' = true ∧ sc a = sc a') (hp : fin p = true) : fin (gmin a p) = true ∧ fin (if FloatKind.f64.format.order p a' == some .lt then p else a') = true ∧ sc (gmin a p) = sc (if FloatKind.f64.format.order p a' == some .lt then p else a') := by
  obtain ⟨h1, h2, h3⟩ := h
  unfold gmin
  rw [nanB_fin h1, lt_fin h1 hp, lt_fin hp h2]
  simp only [Bool.false_or, decide_eq_true_eq]
  split <;> split <;> simp_all <;> omega
theorem sim_high {a a' p : Nat} (h : fin a = true ∧ fin a' = true ∧ sc a = sc a') (hp : fin p = true) : fin (gmax a p) = true ∧ fin (if FloatKind.f64.format.order p a' == some .gt then p else a') = true ∧ sc (gmax a p) = sc (if FloatKind.f64.format.order p a' == some .gt then p else a') := by
  obtain ⟨h1, h2, h3⟩ := h
  unfold gmax
  rw [nanB_fin h1, gt_fin h1 hp, gt_fin hp h2]
  simp only [Bool.false_or, decide_eq_true_eq]
  split <;> split <;> simp_all <;> omega

theorem sim_step {e f : En} {p : Nat × Nat} (h : Sim e f) (h1 : fin p.1 = true) (h2 : fin p.2 = true) : Sim (expE e p) (updE f p) := by
  obtain ⟨a, b, c, d, ne⟩ := e
  obtain ⟨a', b', c', d', ne'⟩ := f
  obtain ⟨h3, h4⟩ := h
  dsimp only at h3 h4
  subst h3
  cases ne with
  | false => exact ⟨rfl, fun _ => ⟨⟨h1, h1, rfl⟩, ⟨h2, h2, rfl⟩, ⟨h1, h1, rfl⟩, ⟨h2, h2, rfl⟩⟩⟩
  | true =>
    obtain ⟨k1, k2, k3, k4⟩ := h4 rfl
    exact ⟨rfl, fun _ => ⟨sim_low k1 h1, sim_low k2 h2, sim_high k3 h1, sim_high k4 h2⟩⟩

theorem sim_fold : ∀ (ps : List (Nat × Nat)) (e f : En), Sim e f → finL ps = true → Sim (ps.foldl expE e) (ps.foldl updE f)
  | [], _, _, h, _ => h
  | p :: ps, e, f, h, hp => by
    unfold finL finP at hp
    simp only [List.all_cons, Bool.and_eq_true] at hp
    exact sim_fold ps _ _ (sim_step h hp.1.1 hp.1.2) (by unfold finL finP; simpa using hp.2)

theorem sim_norm {e f : En} (h : Sim e f) : Sim e.norm f := by
  unfold En.norm
  split
  · exact h
  · rename_i hn
    obtain ⟨h1, h2⟩ := h
    rw [Bool.not_eq_true] at hn
    exact ⟨by rw [← h1, hn], fun h => by cases h⟩

theorem eqE_sim {e f : En} (h : Sim e f) : eqE e f = true := by
  obtain ⟨h1, h2⟩ := h
  unfold eqE
  rw [← h1]
  cases hn : e.ne with
  | false => rfl
  | true =>
    obtain ⟨⟨a1, a2, a3⟩, ⟨b1, b2, b3⟩, ⟨c1, c2, c3⟩, ⟨d1, d2, d3⟩⟩ := h2 hn
    rw [eq_fin a1 a2, eq_fin b1 b2, eq_fin c1 c2, eq_fin d1 d2]
    simp [a3, b3, c3, d3]

theorem expand_plain (e : En) (x y : Nat) (hfit : fitE e = true) (hx : fin x = true) (hy : fin y = true) : eqE (expE (envOf e.ps) (x, y)).norm (boxOf (e.ps ++ [(x, y)])) = true := by
  have hs : Sim (envOf e.ps) (boxOf e.ps) := by
    refine sim_fold _ _ _ ⟨rfl, fun h => by cases h⟩ ?_
    unfold En.ps
    split
    · rename_i hn
      unfold fitE finE at hfit
      simp only [hn, Bool.not_true, Bool.false_or, Bool.and_eq_true] at hfit
      simp [finL, finP, hfit]
    · rfl
  have := eqE_sim (sim_norm (sim_step (p := (x, y)) hs hx hy))
  unfold boxOf
  rw [List.foldl_append]
  exact this

theorem expand_true (e : En) (x y : Nat) (hwf : e.wf) (hx : x < 2 ^ 64) (hy : y < 2 ^ 64) (w : World) :
    Calls Try.prog 6 #[e.p, .agg #[.float .f64 x, .float .f64 y]] w fun en w' => en = .returned (.bool true) ∧ Below w.heap.size w w' := by
  by_cases hfit : fitE e = true
  · by_cases hfx : fin x = true
    · by_cases hfy : fin y = true
      · have := expand_walk e x y hwf hx hy hfit hfx hfy w
        rw [expand_plain e x y hfit hfx hfy] at this
        exact this
      · rw [Bool.not_eq_true] at hfy
        have HW := Lib.hid (And.intro hwf (And.intro hx hy))
        clear hwf hx hy
        unfold En.p
        go_enter Try.func6, Try.ntmps6
        go_wp2_with fail
        refine (eFits_any _ _ _ e HW.out.1 _ (by simp) ⟨by go_simp, by go_simp, by go_simp, by go_simp, by go_simp⟩).mono ?_
        rintro en w' ⟨rfl, hb⟩
        obtain ⟨q, rfl⟩ := gr_of_below hb
        clear hb
        rw [hfit]
        go_wp2_with (go_at_call 25; refine (gFinite_any _ (by first | exact HW.out.2.1 | exact HW.out.2.2) _).mono ?_; rintro e w' ⟨rfl, rfl⟩)
        go_ret
        exact ⟨rfl, (by repeat (first | exact Below.refl _ _ | (refine below_gr' ?_ (by first | omega | (simp [go_sem] <;> omega))) | (refine Below.alloc ?_ (by first | omega | (simp [go_sem] <;> omega)) _) | refine Below.drew ?_ | (refine Below.setCell ?_ (by first | omega | (simp [go_sem] <;> omega)) _)))⟩
    · rw [Bool.not_eq_true] at hfx
      have HW := Lib.hid (And.intro hwf (And.intro hx hy))
      clear hwf hx hy
      unfold En.p
      go_enter Try.func6, Try.ntmps6
      go_wp2_with fail
      refine (eFits_any _ _ _ e HW.out.1 _ (by simp) ⟨by go_simp, by go_simp, by go_simp, by go_simp, by go_simp⟩).mono ?_
      rintro en w' ⟨rfl, hb⟩
      obtain ⟨q, rfl⟩ := gr_of_below hb
      clear hb
      rw [hfit]
      go_wp2_with (go_at_call 25; refine (gFinite_any _ (by first | exact HW.out.2.1 | exact HW.out.2.2) _).mono ?_; rintro e w' ⟨rfl, rfl⟩)
      go_ret
      exact ⟨rfl, (by repeat (first | exact Below.refl _ _ | (refine below_gr' ?_ (by first | omega | (simp [go_sem] <;> omega))) | (refine Below.alloc ?_ (by first | omega | (simp [go_sem] <;> omega)) _) | refine Below.drew ?_ | (refine Below.setCell ?_ (by first | omega | (simp [go_sem] <;> omega)) _)))⟩
  · rw [Bool.not_eq_true] at hfit
    unfold En.p
    go_enter Try.func6, Try.ntmps6
    go_wp2_with fail
    refine (eFits_any _ _ _ e hwf _ (by simp) ⟨by go_simp, by go_simp, by go_simp, by go_simp, by go_simp⟩).mono ?_
    rintro en w' ⟨rfl, hb⟩
    obtain ⟨q, rfl⟩ := gr_of_below hb
    clear hb
    rw [hfit]
    go_wp2_with fail
    go_ret
    exact ⟨rfl, (by repeat (first | exact Below.refl _ _ | (refine below_gr' ?_ (by first | omega | (simp [go_sem] <;> omega))) | (refine Below.alloc ?_ (by first | omega | (simp [go_sem] <;> omega)) _) | refine Below.drew ?_ | (refine Below.setCell ?_ (by first | omega | (simp [go_sem] <;> omega)) _)))⟩

theorem cellsEnv : Try.prog.cellsOf 41 = 5 := by kernel_rfl

theorem array5 {α : Type} {cs : Array α} (h : cs.size = 5) : ∃ c0 c1 c2 c3 c4, cs = #[c0, c1, c2, c3, c4] := by
  obtain ⟨l⟩ := cs
  match l, h with
  | [c0, c1, c2, c3, c4], _ => exact ⟨c0, c1, c2, c3, c4, rfl⟩

section
variable {H : Type} {enc : TypeId × Value → H} {w : World} {base b0 : Nat} {spare : Nat → Bool} {held : Bool} {v : Value} {d : DataW H} {ps : List MemPlace} {r : Reach}

theorem trod_bool {P : Program} {fuel : Nat} {t : TypeId} {cs : List Value} {x : DataW H × List MemPlace} (ht : P.underlying t = some .bool)
    (h : DataW.trod enc P w base spare held fuel t cs = some x) : ∃ b, cs = [.bool b] := by
  cases fuel with
  | zero => simp [DataW.trod] at h
  | succ n =>
    unfold DataW.trod at h
    rw [ht] at h
    split at h <;> simp_all

set_option maxRecDepth 100000 in
/-- An envelope as an argument. -/
theorem open_env (hval : Value.okWide Try.prog w r b0 41 v) (h : DataW.Trod enc Try.prog w base spare held 41 v d ps) : ∃ e : En, v = e.p ∧ e.wf := by
  obtain ⟨cs, rfl, hsz⟩ := okWide_struct Try.underlying41 hval
  obtain ⟨c0, c1, c2, c3, c4, rfl⟩ := array5 (hsz.trans cellsEnv)
  obtain ⟨fuel, hf⟩ := h
  obtain ⟨y0, y1, n, hx, _, h0, h1⟩ := trod_struct2 Try.underlying41 hf
  simp only [Value.cells, cellsBox, show Try.prog.cellsOf 4 = 1 by kernel_rfl, List.drop_zero, List.take_succ_cons, List.take_zero, List.drop_succ_cons] at h0 h1
  obtain ⟨ne, e0⟩ := trod_bool Try.underlying4 h0
  obtain ⟨z0, z1, z2, z3, m, hz, _, g0, g1, g2, g3⟩ := Joins.trod_struct4 Try.underlying34 h1
  simp only [show Try.prog.cellsOf 22 = 1 by kernel_rfl, List.drop_zero, List.take_succ_cons, List.take_zero, List.drop_succ_cons] at g0 g1 g2 g3
  obtain ⟨a, f0, _, wa⟩ := trod_float Try.underlying22 g0
  obtain ⟨b, f1, _, wb⟩ := trod_float Try.underlying22 g1
  obtain ⟨c, f2, _, wc⟩ := trod_float Try.underlying22 g2
  obtain ⟨e, f3, _, we⟩ := trod_float Try.underlying22 g3
  simp only [List.cons.injEq, and_true] at e0 f0 f1 f2 f3
  subst e0 f0 f1 f2 f3
  exact ⟨⟨a, b, c, e, ne⟩, rfl, ⟨f64_lt wa, f64_lt wb, f64_lt wc, f64_lt we⟩⟩
end
end Go.Proofs.Ytpphfoggjejpiaa
