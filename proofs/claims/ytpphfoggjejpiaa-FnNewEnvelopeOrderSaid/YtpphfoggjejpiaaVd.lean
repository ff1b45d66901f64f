/-
  FnNewEnvelopeOrder: neither the order of finite places nor how often each comes matters for their envelope. Conditions: as each theorem states them.
-/
import Derived.Test.YtpphfoggjejpiaaVc
namespace Go.Proofs.Ytpphfoggjejpiaa
open Go.RowKit Fl Go.Sort Go.ChangeShapes Go.WideShapes Go.ChangeAt

def IsMin (f : Nat × Nat → Nat) (L : List (Nat × Nat)) (a : Nat) : Prop := fin a = true ∧ (∃ p ∈ L, sc a = sc (f p)) ∧ ∀ p ∈ L, sc a ≤ sc (f p)
def IsMax (f : Nat × Nat → Nat) (L : List (Nat × Nat)) (a : Nat) : Prop := fin a = true ∧ (∃ p ∈ L, sc a = sc (f p)) ∧ ∀ p ∈ L, sc (f p) ≤ sc a
structure IsEnv (L : List (Nat × Nat)) (e : En) : Prop where
  ne : e.ne = true
  a : IsMin Prod.fst L e.a
  b : IsMin Prod.snd L e.b
  c : IsMax Prod.fst L e.c
  d : IsMax Prod.snd L e.d

theorem IsMin.step {f : Nat × Nat → Nat} {L : List (Nat × Nat)} {a : Nat} (h : IsMin f L a) (p : Nat × Nat) (hp : fin (f p) = true) : IsMin f (L ++ [p]) (gmin a (f p)) := by
  obtain ⟨h1, ⟨q, h2, h3⟩, h4⟩ := h
  unfold gmin
  rw [nanB_fin h1, lt_fin h1 hp]
  simp only [Bool.false_or, decide_eq_true_eq]
  by_cases hlt : sc a < sc (f p)
  · rw [if_pos hlt]
    refine ⟨h1, ⟨q, List.mem_append_left _ h2, h3⟩, fun r hr => ?_⟩
    rcases List.mem_append.1 hr with hr | hr
    · exact h4 r hr
    · obtain rfl : r = p := by simpa using hr
      omega
  · rw [if_neg hlt]
    refine ⟨hp, ⟨p, by simp, rfl⟩, fun r hr => ?_⟩
    rcases List.mem_append.1 hr with hr | hr
    · have := h4 r hr; omega
    · obtain rfl : r = p := by simpa using hr
      omega
theorem IsMax.step {f : Nat × Nat → Nat} {L : List (Nat × Nat)} {a : Nat} (h : IsMax f L a) (p : Nat × Nat) (hp : fin (f p) = true) : IsMax f (L ++ [p]) (gmax a (f p)) := by
  obtain ⟨h1, ⟨q, h2, h3⟩, h4⟩ := h
  unfold gmax
  rw [nanB_fin h1, gt_fin h1 hp]
  simp only [Bool.false_or, decide_eq_true_eq]
  by_cases hlt : sc (f p) < sc a
  · rw [if_pos hlt]
    refine ⟨h1, ⟨q, List.mem_append_left _ h2, h3⟩, fun r hr => ?_⟩
    rcases List.mem_append.1 hr with hr | hr
    · exact h4 r hr
    · obtain rfl : r = p := by simpa using hr
      omega
  · rw [if_neg hlt]
    refine ⟨hp, ⟨p, by simp, rfl⟩, fun r hr => ?_⟩
    rcases List.mem_append.1 hr with hr | hr
    · have := h4 r hr; omega
    · obtain rfl : r = p := by simpa using hr
      omega

theorem IsEnv.step {L : List (Nat × Nat)} {e : En} (h : IsEnv L e) (p : Nat × Nat) (h1 : fin p.1 = true) (h2 : fin p.2 = true) : IsEnv (L ++ [p]) (expE e p) := by
  unfold expE
  rw [if_pos h.ne]
  exact ⟨rfl, h.a.step p h1, h.b.step p h2, h.c.step p h1, h.d.step p h2⟩

theorem IsEnv.fold : ∀ (ps L : List (Nat × Nat)) (e : En), IsEnv L e → finL ps = true → IsEnv (L ++ ps) (ps.foldl expE e)
  | [], L, e, h, _ => by simpa using h
  | p :: ps, L, e, h, hf => by
    unfold finL finP at hf
    simp only [List.all_cons, Bool.and_eq_true] at hf
    have := IsEnv.fold ps (L ++ [p]) _ (h.step p hf.1.1 hf.1.2) (by unfold finL finP; simpa using hf.2)
    simpa using this

theorem isEnv_of {ps : List (Nat × Nat)} (h0 : 0 < ps.length) (hf : finL ps = true) : IsEnv ps (envOf ps) := by
  match ps, h0 with
  | p :: ps, _ =>
    unfold finL finP at hf
    simp only [List.all_cons, Bool.and_eq_true] at hf
    have h1 : IsEnv [p] (expE ⟨0, 0, 0, 0, false⟩ p) := ⟨rfl, ⟨hf.1.1, ⟨p, by simp, rfl⟩, by simp [expE]⟩, ⟨hf.1.2, ⟨p, by simp, rfl⟩, by simp [expE]⟩, ⟨hf.1.1, ⟨p, by simp, rfl⟩, by simp [expE]⟩, ⟨hf.1.2, ⟨p, by simp, rfl⟩, by simp [expE]⟩⟩
    exact IsEnv.fold ps [p] _ h1 (by unfold finL finP; simpa using hf.2)

theorem IsMin.same {f : Nat × Nat → Nat} {L L' : List (Nat × Nat)} {a a' : Nat} (h : IsMin f L a) (h' : IsMin f L' a') (hm : ∀ p, p ∈ L ↔ p ∈ L') : sc a = sc a' := by
  obtain ⟨_, ⟨q, q1, q2⟩, h2⟩ := h
  obtain ⟨_, ⟨r, r1, r2⟩, k2⟩ := h'
  have a1 := h2 r ((hm r).2 r1)
  have a2 := k2 q ((hm q).1 q1)
  omega
theorem IsMax.same {f : Nat × Nat → Nat} {L L' : List (Nat × Nat)} {a a' : Nat} (h : IsMax f L a) (h' : IsMax f L' a') (hm : ∀ p, p ∈ L ↔ p ∈ L') : sc a = sc a' := by
  obtain ⟨_, ⟨q, q1, q2⟩, h2⟩ := h
  obtain ⟨_, ⟨r, r1, r2⟩, k2⟩ := h'
  have a1 := h2 r ((hm r).2 r1)
  have a2 := k2 q ((hm q).1 q1)
  omega

theorem eqE_same {L L' : List (Nat × Nat)} {e e' : En} (h : IsEnv L e) (h' : IsEnv L' e') (hm : ∀ p, p ∈ L ↔ p ∈ L') : eqE e e' = true := by
  unfold eqE
  rw [h.ne, h'.ne, eq_fin h.a.1 h'.a.1, eq_fin h.b.1 h'.b.1, eq_fin h.c.1 h'.c.1, eq_fin h.d.1 h'.d.1]
  simp [h.a.same h'.a hm, h.b.same h'.b hm, h.c.same h'.c hm, h.d.same h'.d hm]

theorem pickP_mem {ps : List (Nat × Nat)} {zs : List Int} {p : Nat × Nat} (h : p ∈ pickP ps zs) : p ∈ ps := by
  unfold pickP at h
  obtain ⟨z, _, hz⟩ := List.mem_flatMap.1 h
  split at hz
  · rename_i hc
    have hl : z.toNat < ps.length := by omega
    rw [List.getElem?_eq_getElem hl, Option.getD_some] at hz
    obtain rfl : p = ps[z.toNat] := by simpa using hz
    exact List.getElem_mem hl
  · cases hz

theorem order_plain (ps : List (Nat × Nat)) (zs : List Int) (h0 : 0 < ps.length) (hf : finL ps = true) : ((envOf ps).norm.ne && eqE (envOf (ps.reverse ++ pickP ps zs)).norm (envOf ps).norm) = true := by
  have hm : ∀ p, p ∈ ps.reverse ++ pickP ps zs ↔ p ∈ ps := by
    intro p
    rw [List.mem_append, List.mem_reverse]
    exact ⟨fun h => h.elim id pickP_mem, .inl⟩
  have hl : 0 < (ps.reverse ++ pickP ps zs).length := by rw [List.length_append, List.length_reverse]; omega
  have hf' : finL (ps.reverse ++ pickP ps zs) = true := by
    unfold finL at hf ⊢
    rw [List.all_eq_true] at hf ⊢
    exact fun p hp => hf p ((hm p).1 hp)
  rw [norm_of_ne (envOf_ne h0), norm_of_ne (envOf_ne hl), envOf_ne h0, Bool.true_and]
  exact eqE_same (isEnv_of hl hf') (isEnv_of h0 hf) hm

/-- Every other input: the law answers true at once. -/
theorem order_true (v0 v1 : Value) (ps : List (Nat × Nat)) (zs : List Int) (w : World) (hp : PtArg w v0 ps) (hz : IntArg w v1 zs) (hw : ∀ p ∈ ps, p.1 < 2 ^ 64 ∧ p.2 < 2 ^ 64) (hmax : ps.length ≤ maxLen) :
    Calls Try.prog 7 #[v0, v1] w fun en w' => en = .returned (.bool true) ∧ Below w.heap.size w w' := by
  obtain ⟨ao, c, rfl, hat⟩ := hz
  rcases hp with ⟨rfl, ap, cp, rfl⟩ | ⟨h0, b, off, cap, rfl, hb, hc⟩
  · have he := Lib.hid (fun w => eList_empty ap cp w)
    by_cases hg : (2147483647 : Int) < (zs.length : Int)
    · have hg1 : decide ((2147483647 : Int) < (zs.length : Int)) = true := decide_eq_true hg
      clear hat hw hmax hg
      go_enter Try.func7, Try.ntmps7
      go_wp2_with fail
      go_ret
      exact ⟨rfl, (by repeat (first | exact Below.refl _ _ | (refine below_gr' ?_ (by first | omega | (simp [go_sem] <;> omega))) | (refine Below.alloc ?_ (by first | omega | (simp [go_sem] <;> omega)) _) | refine Below.drew ?_ | (refine Below.setCell ?_ (by first | omega | (simp [go_sem] <;> omega)) _)))⟩
    · have hg1 : decide ((2147483647 : Int) < (zs.length : Int)) = false := decide_eq_false hg
      clear hat hw hmax hg
      go_enter Try.func7, Try.ntmps7
      go_wp2_with fail
      refine (he.out _).mono ?_
      rintro en w' ⟨rfl, hq⟩
      obtain ⟨q, rfl⟩ := gr_of_below hq
      clear hq
      go_wp2_with fail
      go_ret
      exact ⟨rfl, (by repeat (first | exact Below.refl _ _ | (refine below_gr' ?_ (by first | omega | (simp [go_sem] <;> omega))) | (refine Below.alloc ?_ (by first | omega | (simp [go_sem] <;> omega)) _) | refine Below.drew ?_ | (refine Below.setCell ?_ (by first | omega | (simp [go_sem] <;> omega)) _)))⟩
  · by_cases hbig : (2147483647 : Int) < (ps.length : Int)
    · have hg1 : decide ((2147483647 : Int) < (ps.length : Int)) = true := decide_eq_true hbig
      clear hat hw hmax hbig hc hb h0
      go_enter Try.func7, Try.ntmps7
      go_wp2_with fail
      go_ret
      exact ⟨rfl, (by repeat (first | exact Below.refl _ _ | (refine below_gr' ?_ (by first | omega | (simp [go_sem] <;> omega))) | (refine Below.alloc ?_ (by first | omega | (simp [go_sem] <;> omega)) _) | refine Below.drew ?_ | (refine Below.setCell ?_ (by first | omega | (simp [go_sem] <;> omega)) _)))⟩
    · have hg1 : decide ((2147483647 : Int) < (ps.length : Int)) = false := decide_eq_false hbig
      by_cases hg : (2147483647 : Int) < (zs.length : Int)
      · have hg2 : decide ((2147483647 : Int) < (zs.length : Int)) = true := decide_eq_true hg
        clear hat hw hmax hbig hc hb h0 hg
        go_enter Try.func7, Try.ntmps7
        go_wp2_with fail
        go_ret
        exact ⟨rfl, (by repeat (first | exact Below.refl _ _ | (refine below_gr' ?_ (by first | omega | (simp [go_sem] <;> omega))) | (refine Below.alloc ?_ (by first | omega | (simp [go_sem] <;> omega)) _) | refine Below.drew ?_ | (refine Below.setCell ?_ (by first | omega | (simp [go_sem] <;> omega)) _)))⟩
      · have hg2 : decide ((2147483647 : Int) < (zs.length : Int)) = false := decide_eq_false hg
        have hel := Lib.hid (eList_any b off cap ps w hb (by have h := hbig; omega) hw hc)
        cases hL : (decide (ps.length ≤ 2000) && finL ps) with
        | false =>
          rw [hL] at hel
          clear hat hw hmax hbig hc hb h0 hg hL
          go_enter Try.func7, Try.ntmps7
          go_wp2_with fail
          refine (hel.out).mono ?_
          rintro en w' ⟨rfl, hq⟩
          obtain ⟨q, rfl⟩ := gr_of_below hq
          clear hq
          go_wp2_with fail
          go_ret
          exact ⟨rfl, (by repeat (first | exact Below.refl _ _ | (refine below_gr' ?_ (by first | omega | (simp [go_sem] <;> omega))) | (refine Below.alloc ?_ (by first | omega | (simp [go_sem] <;> omega)) _) | refine Below.drew ?_ | (refine Below.setCell ?_ (by first | omega | (simp [go_sem] <;> omega)) _)))⟩
        | true =>
          simp only [Bool.and_eq_true, decide_eq_true_eq] at hL
          by_cases hz2 : zs.length ≤ 2000
          · have := order_walk b off cap ps zs ao c w hb hL.1 hz2 h0 hw hc hL.2 hat
            rw [order_plain ps zs h0 hL.2] at this
            exact this
          · have hg3 : decide ((2000 : Int) < (zs.length : Int)) = true := decide_eq_true (by omega)
            have h0' : ((ps.length : Int) == 0) = false := by rw [beq_eq_false_iff_ne]; omega
            rw [decide_eq_true hL.1, hL.2, Bool.and_self] at hel
            clear hat hw hmax hbig hc hb h0 hg hL hz2
            go_enter Try.func7, Try.ntmps7
            go_wp2_with fail
            refine (hel.out).mono ?_
            rintro en w' ⟨rfl, hq⟩
            obtain ⟨q, rfl⟩ := gr_of_below hq
            clear hq
            go_wp2_with fail
            go_ret
            exact ⟨rfl, (by repeat (first | exact Below.refl _ _ | (refine below_gr' ?_ (by first | omega | (simp [go_sem] <;> omega))) | (refine Below.alloc ?_ (by first | omega | (simp [go_sem] <;> omega)) _) | refine Below.drew ?_ | (refine Below.setCell ?_ (by first | omega | (simp [go_sem] <;> omega)) _)))⟩
end Go.Proofs.Ytpphfoggjejpiaa
