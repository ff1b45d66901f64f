/-
  The walks over an envelope's transformation. Conditions: as each theorem states them.
-/
import Derived.Test.YtpphfoggjejpiaaHa
import Derived.Test.YtpphfoggjejpiaaRt
namespace Go.Proofs.Ytpphfoggjejpiaa
open Go.RowKit Fl Go.Sort

def mapP (a b c d e f : Nat) (p : Nat × Nat) : Nat × Nat := (mapR a b c p.1 p.2, mapR d e f p.1 p.2)
def joinE (u v : Nat × Nat) : En := ⟨gmin u.1 v.1, gmin u.2 v.2, gmax u.1 v.1, gmax u.2 v.2, true⟩
def tE (a b c d e f : Nat) (n : En) : En := if n.ne then joinE (mapP a b c d e f (n.a, n.b)) (mapP a b c d e f (n.c, n.d)) else ⟨0, 0, 0, 0, false⟩

/-- A map of whole numbers. -/
structure MapI (a b c d e f : Nat) (A Bb C D E F : Int) : Prop where
  a : IsI a A
  b : IsI b Bb
  c : IsI c C
  d : IsI d D
  e : IsI e E
  f : IsI f F
  ka : W20 A
  kb : W20 Bb
  kc : W20 C
  kd : W20 D
  ke : W20 E
  kf : W20 F

theorem MapI.call {B a b c d e f x y : Nat} {A Bb C D E F X Y : Int} (h : MapI a b c d e f A Bb C D E F) (ix : IsI x X) (iy : IsI y Y) (kx : W20 X) (ky : W20 Y) (w : World) (hB : MapAt w B a b c d e f) :
    Calls Try.prog 129 #[.agg #[.float .f64 x, .float .f64 y], .pointer (some ⟨B, 0, none⟩)] w fun en w' => en = .returned (.agg #[.float .f64 (mapP a b c d e f (x, y)).1, .float .f64 (mapP a b c d e f (x, y)).2]) ∧ Below w.heap.size w w' :=
  map1_any h.a h.b h.c h.d h.e h.f ix iy h.ka h.kb h.kc h.kd h.ke h.kf kx ky w hB

/-- An envelope of whole ends. -/
structure EnI (n : En) (X Y Z T : Int) : Prop where
  a : IsI n.a X
  b : IsI n.b Y
  c : IsI n.c Z
  d : IsI n.d T
  ka : W20 X
  kb : W20 Y
  kc : W20 Z
  kd : W20 T

set_option maxRecDepth 8000 in
theorem transform_none (n : En) (hne : n.ne = false) (B : Nat) (w : World) :
    Calls Try.prog 84 #[n.v, mapF B] w fun en w' => en = .returned (⟨0, 0, 0, 0, false⟩ : En).v ∧ Below w.heap.size w w' := by
  obtain ⟨na, nb, nc, nd, ne⟩ := n
  dsimp only at hne
  subst hne
  have hm := Lib.hid (fun w => minMax_any ⟨na, nb, nc, nd, false⟩ w)
  unfold En.ends at hm
  unfold En.v at *
  simp only [Bool.false_eq_true, if_false] at hm
  unfold mapF
  go_enter Try.func84, Try.ntmps84
  go_wp2_with (go_at_call 120; refine (hm.out _).mono ?_; rintro e w' ⟨rfl, hb⟩; obtain ⟨q, rfl⟩ := gr_of_below hb; clear hb)
  exact bodyPost_ret (v := .agg #[.float .f64 0, .float .f64 0, .float .f64 0, .float .f64 0, .bool false]) (by simp [results, Try.results84, go_sem]) rfl ⟨rfl, (by repeat (first | exact Below.refl _ _ | (refine below_gr' ?_ (by first | omega | (simp [go_sem] <;> omega))) | (refine Below.alloc ?_ (by first | omega | (simp [go_sem] <;> omega)) _) | refine Below.drew ?_ | (refine Below.setCell ?_ (by first | omega | (simp [go_sem] <;> omega)) _)))⟩

set_option maxRecDepth 8000 in
set_option maxHeartbeats 1000000 in
theorem transform_some {n : En} (hne : n.ne = true) {X Y Z T : Int} (hn : EnI n X Y Z T) {B a b c d e f : Nat} {A Bb C D E F : Int} (hmp : MapI a b c d e f A Bb C D E F) (w : World) (hB : MapAt w B a b c d e f) :
    Calls Try.prog 84 #[n.v, mapF B] w fun en w' => en = .returned (tE a b c d e f n).v ∧ Below w.heap.size w w' := by
  obtain ⟨na, nb, nc, nd, ne⟩ := n
  dsimp only at hne
  subst hne
  have hm := Lib.hid (fun w => minMax_any ⟨na, nb, nc, nd, true⟩ w)
  unfold En.ends at hm
  simp only [if_true] at hm
  have h1 := Lib.hid (fun w hB => hmp.call (B := B) hn.a hn.b hn.ka hn.kb w hB)
  have h2 := Lib.hid (fun w hB => hmp.call (B := B) hn.c hn.d hn.kc hn.kd w hB)
  unfold tE
  simp only [if_true]
  dsimp only at h1 h2
  obtain ⟨⟨ux, uy⟩, hu⟩ : ∃ u, u = mapP a b c d e f (na, nb) := ⟨_, rfl⟩
  obtain ⟨⟨vx, vy⟩, hv⟩ : ∃ u, u = mapP a b c d e f (nc, nd) := ⟨_, rfl⟩
  rw [← hu] at h1 ⊢
  rw [← hv] at h2 ⊢
  unfold joinE
  unfold En.v at *
  dsimp only at *
  clear hu hv hn hmp
  have hB' := Lib.hid hB
  have hlt := Lib.hid hB.lt
  clear hB
  unfold mapF
  go_enter Try.func84, Try.ntmps84
  go_wp2_with (first | (go_at_call 120; refine (hm.out _).mono ?_; rintro e w' ⟨rfl, hb⟩; obtain ⟨q, rfl⟩ := gr_of_below hb; clear hb) | (go_at_call 129; refine Calls.mono (by first | ((with_reducible refine h1.out _ ?_); exact hB'.out.below (K := w.heap.size) (by repeat (first | exact Below.refl _ _ | (refine below_gr' ?_ (by first | omega | (simp [go_sem] <;> omega))) | (refine Below.alloc ?_ (by first | omega | (simp [go_sem] <;> omega)) _) | refine Below.drew ?_ | (refine Below.setCell ?_ (by first | omega | (simp [go_sem] <;> omega)) _))) hlt.out) | ((with_reducible refine h2.out _ ?_); exact hB'.out.below (K := w.heap.size) (by repeat (first | exact Below.refl _ _ | (refine below_gr' ?_ (by first | omega | (simp [go_sem] <;> omega))) | (refine Below.alloc ?_ (by first | omega | (simp [go_sem] <;> omega)) _) | refine Below.drew ?_ | (refine Below.setCell ?_ (by first | omega | (simp [go_sem] <;> omega)) _))) hlt.out)) ?_; rintro e w' ⟨rfl, hb⟩; obtain ⟨q, rfl⟩ := gr_of_below hb; clear hb))
  refine wp_region_gr_tail 23 (by kernel_rfl) (by kernel_rfl) (by kernel_rfl) ?_
  simp only [tailOps, idle, List.take_succ_cons, List.take_zero, List.drop_succ_cons, List.drop_zero, List.map_cons, List.map_nil, List.cons_append, List.nil_append]
  repeat (first | go_big_quiet_step (first | with_reducible exact Calls.gr_of_same (gmin_any _ _ _) | with_reducible exact Calls.gr_of_same (gmax_any _ _ _) | with_reducible exact Calls.gr_of (newUnch_any _ _ _ _ _)) | quiet_step (first | with_reducible exact Calls.gr_of_same (gmin_any _ _ _) | with_reducible exact Calls.gr_of_same (gmax_any _ _ _) | with_reducible exact Calls.gr_of (newUnch_any _ _ _ _ _)))
  refine wpQuiet_nil ?_
  intro _ hw'
  obtain ⟨q, hw''⟩ := hw'
  subst hw''
  go_wp2
  exact bodyPost_ret (v := .agg #[.float .f64 (gmin ux vx), .float .f64 (gmin uy vy), .float .f64 (gmax ux vx), .float .f64 (gmax uy vy), .bool true]) (by simp [results, Try.results84, go_sem]) rfl ⟨rfl, (by repeat (first | exact Below.refl _ _ | (refine below_gr' ?_ (by first | omega | (simp [go_sem] <;> omega))) | (refine Below.alloc ?_ (by first | omega | (simp [go_sem] <;> omega)) _) | refine Below.drew ?_ | (refine Below.setCell ?_ (by first | omega | (simp [go_sem] <;> omega)) _)))⟩
end Go.Proofs.Ytpphfoggjejpiaa
