/-
  The walks over line strings: two places that differ; the test of a line string. Conditions: as each theorem states them.
-/
import Derived.Test.YtpphfoggjejpiaaKd
namespace Go.Proofs.Ytpphfoggjejpiaa
open Go.RowKit Fl Go.Sort

/-- Place i differs from the first one. -/
def neP (m : Nat) (fs : List Nat) (i : Nat) : Bool := !(FloatKind.f64.format.order (fx m fs i) (fx m fs 0) == some .eq && FloatKind.f64.format.order (fy m fs i) (fy m fs 0) == some .eq)
/-- One of the places from 1 to n - 1 differs from the first one. -/
def an1 (m : Nat) (fs : List Nat) : Nat → Bool
  | 0 => false
  | n + 1 => an1 m fs n || (decide (0 < n) && neP m fs n)

theorem an1_true {m : Nat} {fs : List Nat} {k : Nat} (hk : 0 < k) (h : neP m fs k = true) : ∀ n, k < n → an1 m fs n = true := by
  intro n hn
  induction n with
  | zero => omega
  | succ n ih =>
    unfold an1
    by_cases hkn : k = n
    · subst hkn; rw [h, decide_eq_true hk]; simp
    · rw [ih (by omega), Bool.true_or]

/-- What all walks over a sequence's places need. -/
structure SeqW (d : Int) (b n : Nat) (fs : List Nat) (w : World) : Prop where
  hd : D4 d
  hn : n * dimN d = fs.length
  hl : (fs.length : Int) ≤ 1000000
  hw : ∀ x ∈ fs, x < 2 ^ 64
  hb : b < w.heap.size
  hc : FsAt w b 0 fs

theorem SeqW.below {d : Int} {b n : Nat} {fs : List Nat} {w w' : World} (h : SeqW d b n fs w) (hb : Below w.heap.size w w') : SeqW d b n fs w' :=
  ⟨h.hd, h.hn, h.hl, h.hw, Nat.lt_of_lt_of_le h.hb hb.size, h.hc.below hb h.hb⟩

theorem SeqW.m2 {d : Int} {b n : Nat} {fs : List Nat} {w : World} (_ : SeqW d b n fs w) : 2 ≤ dimN d := by
  rcases dimN_cases d with h | h | h <;> omega

theorem SeqW.getXY {d : Int} {b n : Nat} {fs : List Nat} {w : World} (h : SeqW d b n fs w) (cap i : Nat) (hi : i < n) :
    Calls Try.prog 142 #[seqV d b fs.length cap, .int .i64 i] w fun e w' => e = .returned (.agg #[.float .f64 (fx (dimN d) fs i), .float .f64 (fy (dimN d) fs i)]) ∧ Below w.heap.size w w' := by
  have hp := place_lt h.hn h.m2 hi
  have c0 := h.hc (i * dimN d) (by omega)
  have c1 := h.hc (i * dimN d + 1) hp
  rw [Nat.zero_add] at c0 c1
  exact getXY_any h.hd b fs.length cap i (i * dimN d) _ _ rfl hp h.hl w h.hb c0 c1

theorem SeqW.length {d : Int} {b n : Nat} {fs : List Nat} {w : World} (h : SeqW d b n fs w) (cap : Nat) :
    Calls Try.prog 135 #[seqV d b fs.length cap] w fun e w' => e = .returned (.int .i64 n) ∧ Below w.heap.size w w' := by
  have := length_any h.hd b fs.length cap h.hl w
  have hm := h.m2
  rw [← h.hn, Nat.mul_div_cancel _ (by omega : 0 < dimN d)] at this
  rw [← h.hn]
  exact this

theorem SeqW.n_le {d : Int} {b n : Nat} {fs : List Nat} {w : World} (h : SeqW d b n fs w) : (n : Int) ≤ 1000000 := by
  have h1 := h.hn
  have h2 := h.hl
  have : n * 2 ≤ n * dimN d := Nat.mul_le_mul_left n h.m2
  omega

set_option maxHeartbeats 2000000 in
theorem hasTwo_any {d : Int} {b n : Nat} {fs : List Nat} (cap : Nat) (w : World) (h : SeqW d b n fs w) :
    Calls Try.prog 140 #[seqV d b fs.length cap] w fun e w' => e = .returned (.bool (an1 (dimN d) fs n)) ∧ Below w.heap.size w w' := by
  have hn' := h.n_le
  have hL := Lib.hid (fun w' (hb : Below w.heap.size w w') => (h.below hb).length cap)
  have hG := Lib.hid (fun i w' (hb : Below w.heap.size w w') hi => (h.below hb).getXY cap i hi)
  generalize dimN d = m at *
  clear h
  unfold seqV at *
  rcases Nat.eq_zero_or_pos n with h0 | h0
  · subst h0
    go_enter Try.func140, Try.ntmps140
    go_wp2_with (go_at_call 135; refine (hL.out _ (by repeat (first | exact Below.refl _ _ | (refine below_gr' ?_ (by first | omega | (simp [go_sem] <;> omega))) | (refine Below.alloc ?_ (by first | omega | (simp [go_sem] <;> omega)) _) | refine Below.drew ?_ | (refine Below.setCell ?_ (by first | omega | (simp [go_sem] <;> omega)) _)))).mono ?_; rintro e w' ⟨rfl, hq⟩; obtain ⟨q, rfl⟩ := gr_of_below hq; clear hq)
    go_ret
    exact ⟨rfl, (by repeat (first | exact Below.refl _ _ | (refine below_gr' ?_ (by first | omega | (simp [go_sem] <;> omega))) | (refine Below.alloc ?_ (by first | omega | (simp [go_sem] <;> omega)) _) | refine Below.drew ?_ | (refine Below.setCell ?_ (by first | omega | (simp [go_sem] <;> omega)) _)))⟩
  · have h0' : ((n : Int) == 0) = false := by rw [beq_eq_false_iff_ne]; omega
    have hN : Hid (∀ k, neP m fs k = !(FloatKind.f64.format.order (fx m fs k) (fx m fs 0) == some .eq && FloatKind.f64.format.order (fy m fs k) (fy m fs 0) == some .eq)) := Lib.hid (fun k => rfl)
    have hG0 := Lib.hid (fun w' hb => hG.out 0 w' hb h0)
    generalize fx m fs 0 = x0 at hG0 hN
    generalize fy m fs 0 = y0 at hG0 hN
    go_enter Try.func140, Try.ntmps140
    go_wp2_with (first | (go_at_call 135; refine (hL.out _ (by repeat (first | exact Below.refl _ _ | (refine below_gr' ?_ (by first | omega | (simp [go_sem] <;> omega))) | (refine Below.alloc ?_ (by first | omega | (simp [go_sem] <;> omega)) _) | refine Below.drew ?_ | (refine Below.setCell ?_ (by first | omega | (simp [go_sem] <;> omega)) _)))).mono ?_; rintro e w' ⟨rfl, hq⟩; obtain ⟨q1, rfl⟩ := gr_of_below hq; clear hq) | (go_at_call 142; refine (hG0.out _ (by repeat (first | exact Below.refl _ _ | (refine below_gr' ?_ (by first | omega | (simp [go_sem] <;> omega))) | (refine Below.alloc ?_ (by first | omega | (simp [go_sem] <;> omega)) _) | refine Below.drew ?_ | (refine Below.setCell ?_ (by first | omega | (simp [go_sem] <;> omega)) _)))).mono ?_; rintro e w' ⟨rfl, hq⟩; obtain ⟨q2, rfl⟩ := gr_of_below hq; clear hq))
    go_loopw [5] (fun i wr => ∃ k : Nat, 1 ≤ k ∧ k ≤ n ∧ i = .int .i64 k ∧ an1 m fs k = false ∧ Below w.heap.size w wr ∧ Blk wr w.heap.size #[.int .u8 d, .slice (some ⟨b, 0, none⟩) fs.length cap] ∧ Blk wr (w.heap.size + 1 + (rthen q1 q2).os.size) #[.float .f64 x0, .float .f64 y0]) (fun i _ => n - (intOf i).toNat)
    case atStart => exact ⟨1, Nat.le_refl _, h0, rfl, by simp [an1], (by repeat (first | exact Below.refl _ _ | (refine below_gr' ?_ (by first | omega | (simp [go_sem] <;> omega))) | (refine Below.alloc ?_ (by first | omega | (simp [go_sem] <;> omega)) _) | refine Below.drew ?_ | (refine Below.setCell ?_ (by first | omega | (simp [go_sem] <;> omega)) _))), ((Blk.new _ _ _).gr _).alloc _, Blk.new' _ _ _ _ (by simp [go_sem])⟩
    case round =>
      obtain ⟨k, hk1, hk, rfl, han, hbl, hB, hF⟩ := hrel
      have hbl' := Lib.hid hbl
      have hB' := Lib.hid hB
      have hF' := Lib.hid hF
      have hcB := hB.cell
      have hltB := hB.lt
      have hcF := hF.cell
      have hltF := hF.lt
      have han' := Lib.hid han
      clear han hB hF hbl
      by_cases hlt : k < n
      · have hNk := hN.out k
        have hstep : an1 m fs (k + 1) = (an1 m fs k || (decide (0 < k) && neP m fs k)) := rfl
        have hall := Lib.hid (fun h => an1_true (m := m) (fs := fs) (k := k) hk1 h n hlt)
        have hGk := Lib.hid (fun w' hb => hG.out k w' hb hlt)
        rw [hNk] at hstep hall
        clear hNk
        generalize fx m fs k = x at *
        generalize fy m fs k = y at *
        cases hP : (FloatKind.f64.format.order x x0 == some .eq) <;> cases hQ : (FloatKind.f64.format.order y y0 == some .eq)
        all_goals rw [hP, hQ] at hstep hall
        · have hres := Lib.hid (hall.out rfl)
          clear hstep hall
          go_wp2_with fail
          refine wp_region_gr (by kernel_rfl) (by kernel_rfl) ?_
          repeat (first | go_big_quiet_step (with_reducible exact Calls.gr_of (hGk.out _ (below_gr' hbl'.out hbl'.out.size))) | quiet_step (with_reducible exact Calls.gr_of (hGk.out _ (below_gr' hbl'.out hbl'.out.size))))
          refine wpQuiet_nil ?_
          intro _ hw'
          obtain ⟨q, hw''⟩ := hw'
          subst hw''
          go_wp2
          go_ret
          exact ⟨by rw [hres.out]; rfl, below_gr' hbl'.out hbl'.out.size⟩
        · have hres := Lib.hid (hall.out rfl)
          clear hstep hall
          go_wp2_with fail
          refine wp_region_gr (by kernel_rfl) (by kernel_rfl) ?_
          repeat (first | go_big_quiet_step (with_reducible exact Calls.gr_of (hGk.out _ (below_gr' hbl'.out hbl'.out.size))) | quiet_step (with_reducible exact Calls.gr_of (hGk.out _ (below_gr' hbl'.out hbl'.out.size))))
          refine wpQuiet_nil ?_
          intro _ hw'
          obtain ⟨q, hw''⟩ := hw'
          subst hw''
          go_wp2
          go_ret
          exact ⟨by rw [hres.out]; rfl, below_gr' hbl'.out hbl'.out.size⟩
        · have hres := Lib.hid (hall.out rfl)
          clear hstep hall
          go_wp2_with fail
          refine wp_region_gr (by kernel_rfl) (by kernel_rfl) ?_
          repeat (first | go_big_quiet_step (with_reducible exact Calls.gr_of (hGk.out _ (below_gr' hbl'.out hbl'.out.size))) | quiet_step (with_reducible exact Calls.gr_of (hGk.out _ (below_gr' hbl'.out hbl'.out.size))))
          refine wpQuiet_nil ?_
          intro _ hw'
          obtain ⟨q, hw''⟩ := hw'
          subst hw''
          go_wp2
          go_ret
          exact ⟨by rw [hres.out]; rfl, below_gr' hbl'.out hbl'.out.size⟩
        · have hres : Hid (an1 m fs (k + 1) = false) := Lib.hid (by rw [hstep, han'.out]; simp)
          clear hstep hall
          go_wp2_with fail
          refine wp_region_gr (by kernel_rfl) (by kernel_rfl) ?_
          repeat (first | go_big_quiet_step (with_reducible exact Calls.gr_of (hGk.out _ (below_gr' hbl'.out hbl'.out.size))) | quiet_step (with_reducible exact Calls.gr_of (hGk.out _ (below_gr' hbl'.out hbl'.out.size))))
          refine wpQuiet_nil ?_
          intro _ hw'
          obtain ⟨q, hw''⟩ := hw'
          subst hw''
          go_wp2
          go_roundw
          case rel => exact ⟨k + 1, by omega, by omega, by go_num, hres.out, below_gr' hbl'.out hbl'.out.size, hB'.out.gr _, hF'.out.gr _⟩
          case measure => simp [intOf]; omega
      · have hkn : k = n := by omega
        subst hkn
        go_wp2
        go_ret
        exact ⟨by rw [han'.out]; rfl, hbl'.out⟩
end Go.Proofs.Ytpphfoggjejpiaa
