/-
  The walk over the thin package's transformation of an envelope. Conditions: as each theorem states them.
-/
import Derived.Test.YtpphfoggjejpiaaHb
import Derived.Test.YtpphfoggjejpiaaEr
import Derived.Test.YtpphfoggjejpiaaEs
namespace Go.Proofs.Ytpphfoggjejpiaa
open Go.RowKit Fl Go.Sort

/-- What is known of the values in the statement. -/
def trRs (e r t u : En) (a b c d f g : Nat) : List (Value → World → Prop) :=
  [fun v _ => v = e.p, fun v _ => v = r.v, fun v _ => v = mapV a b c d f g, fun v w => ∃ B, v = mapF B ∧ MapAt w B a b c d f g, fun v _ => v = t.v, fun v _ => v = u.p]

theorem trRs_stable (e r t u : En) (a b c d f g : Nat) : ∀ R ∈ trRs e r t u a b c d f g, ∀ v w w', Below w.heap.size w w' → R v w → R v w' := by
  intro R hR v w w' hb h
  simp only [trRs, List.mem_cons, List.not_mem_nil, or_false] at hR
  rcases hR with rfl | rfl | rfl | rfl | rfl | rfl
  · exact h
  · exact h
  · exact h
  · obtain ⟨B, h1, h2⟩ := h
    exact ⟨B, h1, h2.below hb h2.lt⟩
  · exact h
  · exact h

set_option maxHeartbeats 1000000 in
set_option maxRecDepth 20000 in
theorem envTrans_gen (e r t u : En) (hr : envOf e.ps = r) (hu : t.norm = u) {a b c d f g : Nat}
    (ht : ∀ B w, MapAt w B a b c d f g → Calls Try.prog 84 #[r.v, mapF B] w fun en w' => en = .returned t.v ∧ Below w.heap.size w w') (w : World) :
    Calls Try.prog 39 #[e.p, mapV a b c d f g] w fun en w' => en = .returned u.p ∧ Below w.heap.size w w' := by
  have ht' := Lib.hid ht
  have he' := Lib.hid (fun w => envelope_any e w)
  rw [show (if e.ne then [(e.a, e.b), (e.c, e.d)] else []).foldl expE ⟨0, 0, 0, 0, false⟩ = r from hr] at he'
  have hp' := Lib.hid (fun w => plain_any t w)
  rw [hu] at hp'
  clear ht hr hu
  obtain ⟨E, hE⟩ : ∃ E, E = e := ⟨_, rfl⟩
  unfold En.p mapV
  go_enter Try.func39, Try.ntmps39
  go_wp2_with fail
  refine gen_world (fun W => Blk W w.heap.size #[.bool e.ne, .float .f64 e.a, .float .f64 e.b, .float .f64 e.c, .float .f64 e.d] ∧ Blk W (w.heap.size + 1) #[.float .f64 a, .float .f64 b, .float .f64 c, .float .f64 d, .float .f64 f, .float .f64 g] ∧
    Blk W (w.heap.size + 2) #[.bool false, .float .f64 0, .float .f64 0, .float .f64 0, .float .f64 0] ∧ Below w.heap.size w W) ⟨?bE, ?bM, ?bR, ?bl⟩ ?_
  case bE => exact (((Blk.new' _ _ _ _ (by simp)).alloc _).alloc _).of_same rfl
  case bM => exact ((Blk.new' _ _ _ _ (by simp)).alloc _).of_same rfl
  case bR => exact (Blk.new' _ _ _ _ (by simp)).of_same rfl
  case bl => exact (by repeat (first | exact Below.refl _ _ | (refine below_gr' ?_ (by first | omega | (simp [go_sem] <;> omega))) | (refine Below.alloc ?_ (by first | omega | (simp [go_sem] <;> omega)) _) | refine Below.drew ?_ | (refine Below.setCell ?_ (by first | omega | (simp [go_sem] <;> omega)) _)))
  rintro W ⟨hBE, hBM, hBR, hBW⟩
  refine wp_region_rel_tail 6 (trRs e r t u a b c d f g) (by kernel_rfl) (by kernel_rfl) (by kernel_rfl) (trRs_stable e r t u a b c d f g) ?hA ?hfin
  case hA =>
    simp only [RelAll, List.take_succ_cons, List.take_zero]
    refine ⟨?_, ?_, ?_, ?_, ?_, ?_, trivial⟩
    all_goals
      intro u1 w1 hb hd K hK
      have hE1 := (hBE.below hb hBE.lt).cell
      have hM1 := (hBM.below hb hBM.lt).cell
      clear hb
      simp only [depF, relAt, trRs, Region.binds, List.getElem?_cons_zero, List.getElem?_cons_succ, if_true, and_true, true_and] at hd
      simp only [relAt, trRs, List.getElem?_cons_zero, List.getElem?_cons_succ] at hK
      simp only [fillU, Act.put, List.setIfInBounds_toArray, List.set_cons_zero, List.set_cons_succ, Nat.zero_add, Nat.reduceAdd] at hK ⊢
      try simp only [hd] at hK ⊢
    · go_simp
      exact hK _ _ (Below.refl _ _) rfl
    · go_simp
      refine (he'.out _).mono ?_
      rintro en w' ⟨rfl, hb⟩
      exact hK _ _ hb rfl
    · go_simp
      exact hK _ _ (Below.refl _ _) rfl
    · go_simp
      refine (mapping_any a b c d f g _).mono ?_
      rintro en w' ⟨⟨B, rfl, hB⟩, hb⟩
      exact hK _ _ hb ⟨B, rfl, hB⟩
    · obtain ⟨h1, ⟨B, h3, hB⟩, _⟩ := hd
      simp only [h1, h3] at hK ⊢
      go_simp
      refine (ht'.out B _ hB).mono ?_
      rintro en w' ⟨rfl, hb⟩
      exact hK _ _ hb rfl
    · go_simp
      refine (hp'.out _).mono ?_
      rintro en w' ⟨rfl, hb⟩
      exact hK _ _ hb rfl
  case hfin =>
    intro u1 w1 hb hR
    have h5 := hR 5 (by decide)
    simp only [relAt, trRs, List.getElem?_cons_zero, List.getElem?_cons_succ] at h5
    simp only [fillU, Act.put, List.setIfInBounds_toArray, List.set_cons_zero, List.set_cons_succ, Nat.zero_add, Nat.reduceAdd, h5, List.drop_succ_cons, List.drop_zero]
    have HR := Lib.hid (hBR.below hb hBR.lt)
    have HB := Lib.hid (hBW.trans (hb.mono hBW.size))
    clear hb hR hBE hBM hBR hBW h5
    refine wpList_store_blk rfl 41 _ _ rfl (w.heap.size + 2) _ u.pcells HR.out rfl rfl penv_info rfl (En.pone _) ?_
    intro w2 hb2 ho2
    have hb2' := Lib.hid hb2
    have ho2' := Lib.hid ho2
    clear hb2 ho2
    go_wp2
    have hr := hb2'.out.cell
    unfold En.pcells at hr
    refine bodyPost_ret (v := u.p) (by unfold En.p; simp [results, Try.results39, go_sem, hr]) rfl ⟨rfl, HB.out.trans (ho2'.out.below (by omega))⟩
end Go.Proofs.Ytpphfoggjejpiaa
