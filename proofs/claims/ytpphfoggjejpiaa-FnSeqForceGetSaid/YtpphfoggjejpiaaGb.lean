/-
  The walks over places in the plane, continued: the envelope of a segment, the crossing of a ray. Conditions: as each theorem states them.
-/
import Derived.Test.YtpphfoggjejpiaaGa
import Derived.RegionTactic
namespace Go.Proofs.Ytpphfoggjejpiaa
open Go.RowKit Fl Go.Sort

def loB (a b : Nat) : Nat := if FloatKind.f64.format.order a b == some .gt then b else a
def hiB (a b : Nat) : Nat := if FloatKind.f64.format.order a b == some .gt then a else b

theorem sortPair_any (a b : Nat) (w : World) :
    Calls Try.prog 182 #[.float .f64 a, .float .f64 b] w fun e w' => e = .returned (.tuple #[.float .f64 (loB a b), .float .f64 (hiB a b)]) ∧ w = w' := by
  cases h : (FloatKind.f64.format.order a b == some .gt) with
  | true =>
    have e1 : loB a b = b := by unfold loB; rw [h]; rfl
    have e2 : hiB a b = a := by unfold hiB; rw [h]; rfl
    rw [e1, e2]
    clear e1 e2
    go_enter Try.func182, Try.ntmps182
    go_wp2
    exact bodyPost_ret (v := .tuple #[.float .f64 b, .float .f64 a]) (by simp [results, Try.results182, go_sem]) rfl ⟨rfl, rfl⟩
  | false =>
    have e1 : loB a b = a := by unfold loB; rw [h]; rfl
    have e2 : hiB a b = b := by unfold hiB; rw [h]; rfl
    rw [e1, e2]
    clear e1 e2
    go_enter Try.func182, Try.ntmps182
    go_wp2
    exact bodyPost_ret (v := .tuple #[.float .f64 a, .float .f64 b]) (by simp [results, Try.results182, go_sem]) rfl ⟨rfl, rfl⟩

theorem unchEnv_any (ax ay bx by' : Nat) (w : World) :
    Calls Try.prog 172 #[.agg #[.float .f64 ax, .float .f64 ay, .float .f64 bx, .float .f64 by']] w fun e w' =>
      e = .returned (.agg #[.float .f64 (loB ax bx), .float .f64 (loB ay by'), .float .f64 (hiB ax bx), .float .f64 (hiB ay by'), .bool true]) ∧ Below w.heap.size w w' := by
  go_enter Try.func172, Try.ntmps172
  go_wp2_with (first | (go_at_call 182; refine (sortPair_any _ _ _).mono ?_; rintro e w' ⟨rfl, rfl⟩) | (go_at_call 122; refine (newUnch_any _ _ _ _ _).mono ?_; rintro e w' ⟨rfl, hb⟩; obtain ⟨q, rfl⟩ := gr_of_below hb; clear hb))
  exact bodyPost_ret (v := .agg #[.float .f64 (loB ax bx), .float .f64 (loB ay by'), .float .f64 (hiB ax bx), .float .f64 (hiB ay by'), .bool true]) (by simp [results, Try.results172, go_sem]) rfl ⟨rfl, (by repeat (first | exact Below.refl _ _ | (refine below_gr' ?_ (by first | omega | (simp [go_sem] <;> omega))) | (refine Below.alloc ?_ (by first | omega | (simp [go_sem] <;> omega)) _) | refine Below.drew ?_ | (refine Below.setCell ?_ (by first | omega | (simp [go_sem] <;> omega)) _)))⟩

theorem validXY_any {x y : Nat} (hx : x < 2 ^ 64) (hy : y < 2 ^ 64) (h1 : fin x = true) (h2 : fin y = true) (w : World) :
    Calls Try.prog 175 #[.agg #[.float .f64 x, .float .f64 y]] w fun e w' => e = .returned .nilIface ∧ Below w.heap.size w w' := by
  have n1 := nanB_fin h1
  have n2 := nanB_fin h2
  have i1 := infB_fin hx h1
  have i2 := infB_fin hy h2
  clear hx hy h1 h2
  go_enter Try.func175, Try.ntmps175
  go_wp2_with (first | (go_at_call 73; refine (isNaN_any _ _).mono ?_; rintro e w' ⟨rfl, rfl⟩) | (go_at_call 74; refine (isInf_any _ _).mono ?_; rintro e w' ⟨rfl, rfl⟩))
  go_ret
  exact ⟨rfl, (by repeat (first | exact Below.refl _ _ | (refine below_gr' ?_ (by first | omega | (simp [go_sem] <;> omega))) | (refine Below.alloc ?_ (by first | omega | (simp [go_sem] <;> omega)) _) | refine Below.drew ?_ | (refine Below.setCell ?_ (by first | omega | (simp [go_sem] <;> omega)) _)))⟩

def geF (a b : Nat) : Bool := FloatKind.f64.format.order a b == some .gt || FloatKind.f64.format.order a b == some .eq
def leF (a b : Nat) : Bool := FloatKind.f64.format.order a b == some .lt || FloatKind.f64.format.order a b == some .eq
def inB (x y a b c d : Nat) : Bool := geF x a && leF x c && geF y b && leF y d

theorem contains_any {x y : Nat} (hx : x < 2 ^ 64) (hy : y < 2 ^ 64) (h1 : fin x = true) (h2 : fin y = true) (a b c d : Nat) (w : World) :
    Calls Try.prog 173 #[.agg #[.float .f64 a, .float .f64 b, .float .f64 c, .float .f64 d, .bool true], .agg #[.float .f64 x, .float .f64 y]] w fun e w' => e = .returned (.bool (inB x y a b c d)) ∧ Below w.heap.size w w' := by
  have hv := Lib.hid (fun w => validXY_any hx hy h1 h2 w)
  have he := Lib.hid (fun w => isEmpty_any ⟨a, b, c, d, true⟩ w)
  unfold En.v at he
  dsimp only at he
  rw [show (!true) = false from rfl] at he
  clear hx hy h1 h2
  go_enter Try.func173, Try.ntmps173
  go_wp2_with (first | (go_at_call 121; refine (he.out _).mono ?_; rintro e w' ⟨rfl, hb⟩; obtain ⟨q, rfl⟩ := gr_of_below hb; clear hb) | (go_at_call 175; refine (hv.out _).mono ?_; rintro e w' ⟨rfl, hb⟩; obtain ⟨q, rfl⟩ := gr_of_below hb; clear hb))
  all_goals go_ret
  all_goals refine ⟨?_, (by repeat (first | exact Below.refl _ _ | (refine below_gr' ?_ (by first | omega | (simp [go_sem] <;> omega))) | (refine Below.alloc ?_ (by first | omega | (simp [go_sem] <;> omega)) _) | refine Below.drew ?_ | (refine Below.setCell ?_ (by first | omega | (simp [go_sem] <;> omega)) _)))⟩
  all_goals simp [inB, geF, leF, *]

def ltF (a b : Nat) : Bool := FloatKind.f64.format.order a b == some .lt

set_option maxHeartbeats 2000000 in
theorem hasCrossing_no {px py ax ay bx by' : Nat} {Px Py Ax Ay Bx By : Int} (h1 : IsI px Px) (h2 : IsI py Py) (h3 : IsI ax Ax) (h4 : IsI ay Ay) (h5 : IsI bx Bx) (h6 : IsI by' By)
    (k1 : W20 Px) (k2 : W20 Py) (k3 : W20 Ax) (k4 : W20 Ay) (k5 : W20 Bx) (k6 : W20 By) (l1 : px < 2 ^ 64) (l2 : py < 2 ^ 64) (hsw : (FloatKind.f64.format.order ay by' == some .gt) = false) (w : World) :
    Calls Try.prog 125 #[.agg #[.float .f64 px, .float .f64 py], .agg #[.float .f64 ax, .float .f64 ay, .float .f64 bx, .float .f64 by']] w fun e w' =>
      e = .returned (.tuple #[.bool (geF py ay && ltF py by' && (signB (turnI Ax Ay Bx By Px Py) == 1)), .bool (inB px py (loB ax bx) (loB ay by') (hiB ax bx) (hiB ay by') && (signB (turnI Ax Ay Bx By Px Py) == 2))]) ∧ Below w.heap.size w w' := by
  have ho := Lib.hid (fun w => orientation_any h3 h4 h5 h6 h1 h2 k3 k4 k5 k6 k1 k2 w)
  have hu := Lib.hid (fun w => unchEnv_any ax ay bx by' w)
  have hc := Lib.hid (fun w => contains_any l1 l2 h1.fin h2.fin (loB ax bx) (loB ay by') (hiB ax bx) (hiB ay by') w)
  obtain ⟨O, hO⟩ : ∃ O, O = signB (turnI Ax Ay Bx By Px Py) := ⟨_, rfl⟩
  rw [← hO] at ho ⊢
  obtain ⟨I, hI⟩ : ∃ I, I = inB px py (loB ax bx) (loB ay by') (hiB ax bx) (hiB ay by') := ⟨_, rfl⟩
  rw [← hI] at hc ⊢
  obtain ⟨G, hG⟩ : ∃ G, G = geF py ay := ⟨_, rfl⟩
  obtain ⟨L, hL⟩ : ∃ L, L = ltF py by' := ⟨_, rfl⟩
  rw [← hG, ← hL]
  unfold geF at hG
  unfold ltF at hL
  replace hG := hG.symm
  replace hL := hL.symm
  clear h1 h2 h3 h4 h5 h6 k1 k2 k3 k4 k5 k6 l1 l2 hO hI
  cases G <;> cases L <;> cases I
  all_goals
    go_enter Try.func125, Try.ntmps125
    go_wp2_with fail
    go_region
    all_goals
      go_wp2_with (go_at_call 171; refine (ho.out _).mono ?_; rintro e w' ⟨rfl, hb⟩; obtain ⟨q, rfl⟩ := gr_of_below hb; clear hb)
  all_goals
    first | refine wp_region_gr' (by kernel_rfl) (by kernel_rfl) ?_ | refine wp_region_gr (by kernel_rfl) (by kernel_rfl) ?_
    repeat (first | go_big_quiet_step (first | with_reducible exact Calls.gr_of (hu.out _) | with_reducible exact Calls.gr_of (hc.out _)) | quiet_step (first | with_reducible exact Calls.gr_of (hu.out _) | with_reducible exact Calls.gr_of (hc.out _)))
    refine wpQuiet_nil ?_
    intro _ hw'
    obtain ⟨q, hw''⟩ := hw'
    subst hw''
    go_wp2
    refine bodyPost_ret ?_ rfl ⟨rfl, ?_⟩
    · simp [results, Try.results125, go_sem]
    · exact (by repeat (first | exact Below.refl _ _ | (refine below_gr' ?_ (by first | omega | (simp [go_sem] <;> omega))) | (refine Below.alloc ?_ (by first | omega | (simp [go_sem] <;> omega)) _) | refine Below.drew ?_ | (refine Below.setCell ?_ (by first | omega | (simp [go_sem] <;> omega)) _)))
end Go.Proofs.Ytpphfoggjejpiaa
