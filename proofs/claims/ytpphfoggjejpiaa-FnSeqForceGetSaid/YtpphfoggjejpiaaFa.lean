/-
  The walks over the small number tests (finite, NaN, infinite, whole). Conditions: none beyond a word of 64 bits.
-/
import Derived.Test.YtpphfoggjejpiaaRows
import Derived.Test.YtpphfoggjejpiaaFm
import Derived.WalkKit
import Derived.WalkSpells
import Derived.WalkLawsBesides
import Derived.Test.YtpphfoggjejpiaaLw
namespace Go.Proofs.Ytpphfoggjejpiaa
open Go.RowKit Fl

theorem isNaN_any (x : Nat) (w : World) :
    Calls Try.prog 73 #[.float .f64 x] w fun e w' => e = .returned (.bool (nanB x)) ∧ w = w' := by
  go_enter Try.func73, Try.ntmps73
  go_wp2
  go_ret
  exact ⟨rfl, rfl⟩

theorem bits_run (x : Nat) (w : World) : (callFunc 138 #[.float .f64 x]).run Try.prog w = .ok (.value (.int .u64 x)) w :=
  run_callFunc_extern (e := Extern.MathFloatBits.float64bits) Try.func138 (by kernel_rfl) rfl (by kernel_rfl) (by kernel_rfl) _ w
theorem frombits_run (x : Int) (w : World) : (callFunc 170 #[.int .u64 x]).run Try.prog w = .ok (.value (.float .f64 x.toNat)) w :=
  run_callFunc_extern (e := Extern.MathFloatBits.float64frombits) Try.func170 (by kernel_rfl) rfl (by kernel_rfl) (by kernel_rfl) _ w

theorem abs_any (x : Nat) (w : World) :
    Calls Try.prog 119 #[.float .f64 x] w fun e w' => e = .returned (.float .f64 (absB x)) ∧ w = w' := by
  have hb := bits_run x
  have hf := frombits_run
  go_enter Try.func119, Try.ntmps119
  go_wp2
  go_ret
  exact ⟨rfl, rfl⟩

theorem isInf_any (x : Nat) (w : World) :
    Calls Try.prog 74 #[.float .f64 x, .int .i64 0] w fun e w' => e = .returned (.bool (infB x)) ∧ w = w' := by
  go_enter Try.func74, Try.ntmps74
  go_wp2_with (go_at_call 119; refine (abs_any _ _).mono ?_; rintro e w' ⟨rfl, rfl⟩)
  go_ret
  exact ⟨rfl, rfl⟩

theorem gFinite_any (x : Nat) (hx : x < 2 ^ 64) (w : World) :
    Calls Try.prog 25 #[.float .f64 x] w fun e w' => e = .returned (.bool (fin x)) ∧ w = w' := by
  have H := Lib.hid (fin_eq hx)
  go_enter Try.func25, Try.ntmps25
  go_wp2_with (first | (go_at_call 73; refine (isNaN_any _ _).mono ?_; rintro e w' ⟨rfl, rfl⟩) | (go_at_call 74; refine (isInf_any _ _).mono ?_; rintro e w' ⟨rfl, rfl⟩))
  all_goals go_ret
  · exact ⟨by rw [← H.out]; simp [*], rfl⟩
  · exact ⟨by rw [← H.out]; simp [*], rfl⟩

/-- The library's cut towards zero, as the model runs it. -/
noncomputable abbrev cutRun (x : Nat) (w : World) : Result Value := (Extern.MathFloor.toIntegral "math.archTrunc" .zero #[.float .f64 x]).run Try.prog w

theorem archTrunc_eq (x : Nat) (w : World) : (callFunc 127 #[.float .f64 x]).run Try.prog w = (cutRun x w).andThen fun v w' => .ok (.value v) w' :=
  run_callFunc_extern (e := Extern.MathFloor.toIntegral "math.archTrunc" .zero) Try.func127 (by kernel_rfl) rfl (by kernel_rfl) (by kernel_rfl) _ w

theorem nanB_nan {x : Nat} {s : Bool} {t : Nat} (hd : FloatKind.f64.decode x = .nan s t) : nanB x = true := by
  unfold nanB
  show (Ieee.Datum.order (FloatKind.f64.decode x) (FloatKind.f64.decode x) != some .eq) = true
  rw [hd]; rfl

theorem cutRun_num (x : Nat) (h : nanB x = false) (w : World) : cutRun x w = .ok (.float .f64 (truncB x)) w := by
  unfold cutRun
  conv => lhs; arg 2; whnf
  unfold truncB
  cases hd : FloatKind.f64.decode x with
  | number s m e => rfl
  | infinity s => rfl
  | nan s t => rw [nanB_nan hd] at h; cases h

theorem archTrunc_run (x : Nat) (h : nanB x = false) (w : World) : (callFunc 127 #[.float .f64 x]).run Try.prog w = .ok (.value (.float .f64 (truncB x))) w := by
  rw [archTrunc_eq, cutRun_num x h]; rfl

theorem cutRun_nan (x : Nat) : (∃ v, ∀ w, cutRun x w = .ok (.float .f64 v) w) ∨ ∃ g : World → Nat, ∀ w, cutRun x w = .ok (.float .f64 (g w)) w.drew := by
  unfold cutRun
  conv => lhs; rhs; intro v w; lhs; arg 2; whnf
  conv => rhs; rhs; intro g w; lhs; arg 2; whnf
  cases hd : FloatKind.f64.decode x with
  | number s m e => exact .inl ⟨_, fun _ => rfl⟩
  | infinity s => exact .inl ⟨_, fun _ => rfl⟩
  | nan s t =>
    dsimp only
    by_cases hq : FloatKind.f64.format.quiet t = t
    · left
      refine ⟨x, fun w => ?_⟩
      rw [if_pos hq]; rfl
    · right
      simp only [if_neg hq, Sem.run_bind, run_choose_drew]
      exact ⟨_, fun w => rfl⟩

theorem trunc_num (x : Nat) (h : nanB x = false) (w : World) :
    Calls Try.prog 83 #[.float .f64 x] w fun e w' => e = .returned (.float .f64 (truncB x)) ∧ w = w' := by
  have hr := archTrunc_run x h
  have H := Lib.hid h
  clear h
  go_enter Try.func83, Try.ntmps83
  go_wp2
  go_ret
  exact ⟨rfl, rfl⟩

theorem archTrunc_nan (x : Nat) : (∃ v, ∀ w, (callFunc 127 #[.float .f64 x]).run Try.prog w = .ok (.value (.float .f64 v)) w) ∨
    ∃ g : World → Nat, ∀ w, (callFunc 127 #[.float .f64 x]).run Try.prog w = .ok (.value (.float .f64 (g w))) w.drew := by
  rcases cutRun_nan x with ⟨v, h⟩ | ⟨g, h⟩
  · exact .inl ⟨v, fun w => by rw [archTrunc_eq, h]; rfl⟩
  · exact .inr ⟨g, fun w => by rw [archTrunc_eq, h]; rfl⟩

theorem order_nan (x v : Nat) (h : nanB x = true) : FloatKind.f64.format.order x v = none := by
  unfold nanB at h
  change (Ieee.Datum.order (rd x) (rd x) != some .eq) = true at h
  show Ieee.Datum.order (rd x) (rd v) = none
  cases hd : rd x with
  | number s m e => rw [order_self hd] at h; cases h
  | infinity s => rw [hd] at h; cases s <;> cases h
  | nan s t => rfl
where
  order_self {x : Nat} {s : Bool} {m : Nat} {e : Int} (hd : rd x = .number s m e) : (Ieee.Datum.order (rd x) (rd x) != some .eq) = false := by
    have hf := fin_iff.2 ⟨_, _, _, hd⟩
    have := nanB_fin hf
    exact this

/-- The test 'whole, from -2^20 to 2^20', as a Bool. -/
def wholeB (x : Nat) : Bool := fin x && (FloatKind.f64.format.order x (truncB x) == some .eq) && (FloatKind.f64.format.order x 13920626448202203136 == some .gt || FloatKind.f64.format.order x 13920626448202203136 == some .eq) && (FloatKind.f64.format.order x 4697254411347427328 == some .lt || FloatKind.f64.format.order x 4697254411347427328 == some .eq)

theorem whole_I {x : Nat} (h : wholeB x = true) : ∃ n : Int, IsI x n ∧ -1048576 ≤ n ∧ n ≤ 1048576 := by
  unfold wholeB at h
  simp only [Bool.and_eq_true] at h
  obtain ⟨⟨⟨h1, h2⟩, h3⟩, h4⟩ := h
  obtain ⟨n, hn⟩ := whole_of_trunc h1 h2
  rw [ge_I hn isI_m20] at h3
  rw [le_I hn isI_p20] at h4
  exact ⟨n, hn, of_decide_eq_true h3, of_decide_eq_true h4⟩

theorem inf_range {x : Nat} {s : Bool} (h : rd x = .infinity s) : ((FloatKind.f64.format.order x 13920626448202203136 == some .gt || FloatKind.f64.format.order x 13920626448202203136 == some .eq) && (FloatKind.f64.format.order x 4697254411347427328 == some .lt || FloatKind.f64.format.order x 4697254411347427328 == some .eq)) = false := by
  have e1 : FloatKind.f64.format.order x 13920626448202203136 = Ieee.Datum.order (rd x) (rd 13920626448202203136) := rfl
  have e2 : FloatKind.f64.format.order x 4697254411347427328 = Ieee.Datum.order (rd x) (rd 4697254411347427328) := rfl
  rw [e1, e2, h, rd_p20, rd_m20]
  cases s <;> rfl

/-- What the walk comes to of a number that is no NaN. -/
theorem wholeB_num {x : Nat} (h : nanB x = false) : wholeB x = ((FloatKind.f64.format.order x (truncB x) == some .eq) && (FloatKind.f64.format.order x 13920626448202203136 == some .gt || FloatKind.f64.format.order x 13920626448202203136 == some .eq) && (FloatKind.f64.format.order x 4697254411347427328 == some .lt || FloatKind.f64.format.order x 4697254411347427328 == some .eq)) := by
  unfold wholeB
  cases hd : rd x with
  | number s m e => rw [fin_iff.2 ⟨_, _, _, hd⟩, Bool.true_and]
  | infinity s =>
    have := inf_range hd
    have hf : fin x = false := by unfold fin; rw [hd]
    rw [hf, Bool.and_assoc (FloatKind.f64.format.order x (truncB x) == some .eq), this]; simp
  | nan s t =>
    have : nanB x = true := by unfold nanB; show (Ieee.Datum.order (rd x) (rd x) != some .eq) = true; rw [hd]; rfl
    rw [this] at h; cases h

theorem wholeB_nan {x : Nat} (h : nanB x = true) : wholeB x = false := by
  cases hf : fin x with
  | true => rw [nanB_fin hf] at h; cases h
  | false => unfold wholeB; rw [hf]; rfl

def SomeF (w : World) (e : Ending) (w' : World) : Prop := (∃ v, e = .returned (.float .f64 v)) ∧ Below w.heap.size w w'

theorem trunc_nan (x : Nat) (w : World) :
    Calls Try.prog 83 #[.float .f64 x] w (SomeF w) := by
  rcases archTrunc_nan x with ⟨v, hr⟩ | ⟨g, hr⟩
  · go_enter Try.func83, Try.ntmps83
    go_wp2
    go_ret
    exact ⟨⟨_, rfl⟩, Below.refl _ _⟩
  · go_enter Try.func83, Try.ntmps83
    go_wp2
    go_ret
    exact ⟨⟨_, rfl⟩, (Below.refl _ _).drew⟩

theorem gWhole_any (x : Nat) (w : World) :
    Calls Try.prog 38 #[.float .f64 x] w fun e w' => e = .returned (.bool (wholeB x)) ∧ Below w.heap.size w w' := by
  by_cases hn : nanB x = true
  · have hb := wholeB_nan hn
    rw [hb]
    have ho := fun v => order_nan x v hn
    go_enter Try.func38, Try.ntmps38
    go_wp2_with (go_at_call 83; refine (trunc_nan _ _).mono ?_; rintro e w' ⟨⟨v, rfl⟩, hbl⟩)
    go_ret
    exact ⟨rfl, hbl⟩
  · have hn' : nanB x = false := by simpa using hn
    have hb := Lib.hid (wholeB_num hn')
    have hn2 := Lib.hid hn'
    clear hn hn'
    go_enter Try.func38, Try.ntmps38
    go_wp2_with (go_at_call 83; refine (trunc_num _ hn2.out _).mono ?_; rintro e w' ⟨rfl, rfl⟩)
    all_goals go_ret
    all_goals refine ⟨?_, Below.refl _ _⟩
    all_goals rw [hb.out]
    all_goals simp [*]
end Go.Proofs.Ytpphfoggjejpiaa
