/-
  FnLineValid: the law's own helpers. Conditions: as each theorem states them.
-/
import Derived.Test.YtpphfoggjejpiaaKf
namespace Go.Proofs.Ytpphfoggjejpiaa
open Go.RowKit Fl Go.Sort

theorem lineOf_good {d : Int} (hd : D4 d) (ao : Option Addr) (n cap : Nat) (hn : (n : Int) ≤ 2147483647) (hr : Int.tmod (n : Int) (dimN d : Int) = 0) (w : World) :
    Calls Try.prog 45 #[.slice ao n cap, .int .i64 d] w fun e w' => e = .returned (.tuple #[lineV d ao n cap none 0 0, .bool true]) ∧ Below w.heap.size w w' := by
  have h1 := Lib.hid (fun w => width_any hd w)
  have hd1 : decide (d < 0) = false := by rcases hd with rfl | rfl | rfl | rfl <;> rfl
  have hd2 : decide ((3 : Int) < d) = false := by rcases hd with rfl | rfl | rfl | rfl <;> rfl
  have hm := dimN_cases d
  generalize dimN d = m at *
  clear hd
  unfold lineV
  rcases hm with rfl | rfl | rfl
  all_goals
    simp only [Int.cast_ofNat_Int] at *
    go_enter Try.func45, Try.ntmps45
    go_wp2_with (go_at_call 96; refine (h1.out _).mono ?_; rintro e w' ⟨rfl, hq⟩; obtain ⟨q, rfl⟩ := gr_of_below hq; clear hq)
    refine bodyPost_ret ?_ rfl ⟨rfl, ?_⟩
    · simp [results, Try.results45, go_sem]
    · exact (by repeat (first | exact Below.refl _ _ | (refine below_gr' ?_ (by first | omega | (simp [go_sem] <;> omega))) | (refine Below.alloc ?_ (by first | omega | (simp [go_sem] <;> omega)) _) | refine Below.drew ?_ | (refine Below.setCell ?_ (by first | omega | (simp [go_sem] <;> omega)) _)))

/-- What lineOf hands back where the numbers make no line. -/
def noLine : Value := .tuple #[.agg #[.int .i64 0, .int .i64 0, .slice none 0 0, .slice none 0 0], .bool false]

theorem lineOf_bad {d : Int} (hd : D4 d) (ao : Option Addr) (n cap : Nat) (hn : (n : Int) ≤ 2147483647) (hr : Int.tmod (n : Int) (dimN d : Int) ≠ 0) (w : World) :
    Calls Try.prog 45 #[.slice ao n cap, .int .i64 d] w fun e w' => e = .returned noLine ∧ Below w.heap.size w w' := by
  have h1 := Lib.hid (fun w => width_any hd w)
  have hd1 : decide (d < 0) = false := by rcases hd with rfl | rfl | rfl | rfl <;> rfl
  have hd2 : decide ((3 : Int) < d) = false := by rcases hd with rfl | rfl | rfl | rfl <;> rfl
  have hr2 : ((n : Int) % (dimN d : Int) != 0) = true := by
    rw [Int.tmod_eq_emod_of_nonneg (by omega)] at hr
    simpa using hr
  have hm := dimN_cases d
  generalize dimN d = m at *
  clear hd
  unfold noLine
  rcases hm with rfl | rfl | rfl
  all_goals
    clear hr
    simp only [Int.cast_ofNat_Int] at *
    go_enter Try.func45, Try.ntmps45
    go_wp2_with (go_at_call 96; refine (h1.out _).mono ?_; rintro e w' ⟨rfl, hq⟩; obtain ⟨q, rfl⟩ := gr_of_below hq; clear hq)
    refine bodyPost_ret ?_ rfl ⟨rfl, ?_⟩
    · simp [results, Try.results45, go_sem]
    · exact (by repeat (first | exact Below.refl _ _ | (refine below_gr' ?_ (by first | omega | (simp [go_sem] <;> omega))) | (refine Below.alloc ?_ (by first | omega | (simp [go_sem] <;> omega)) _) | refine Below.drew ?_ | (refine Below.setCell ?_ (by first | omega | (simp [go_sem] <;> omega)) _)))

theorem lineOf_dim {d : Int} (hd : d < 0 ∨ 3 < d) (ao : Option Addr) (n cap : Nat) (w : World) :
    Calls Try.prog 45 #[.slice ao n cap, .int .i64 d] w fun e w' => e = .returned noLine ∧ Below w.heap.size w w' := by
  unfold noLine
  rcases hd with h | h
  · have hd1 : decide (d < 0) = true := decide_eq_true h
    go_enter Try.func45, Try.ntmps45
    go_wp2
    refine bodyPost_ret ?_ rfl ⟨rfl, ?_⟩
    · simp [results, Try.results45, go_sem]
    · exact (by repeat (first | exact Below.refl _ _ | (refine below_gr' ?_ (by first | omega | (simp [go_sem] <;> omega))) | (refine Below.alloc ?_ (by first | omega | (simp [go_sem] <;> omega)) _) | refine Below.drew ?_ | (refine Below.setCell ?_ (by first | omega | (simp [go_sem] <;> omega)) _)))
  · have hd1 : decide (d < 0) = false := decide_eq_false (by omega)
    have hd2 : decide ((3 : Int) < d) = true := decide_eq_true h
    go_enter Try.func45, Try.ntmps45
    go_wp2
    refine bodyPost_ret ?_ rfl ⟨rfl, ?_⟩
    · simp [results, Try.results45, go_sem]
    · exact (by repeat (first | exact Below.refl _ _ | (refine below_gr' ?_ (by first | omega | (simp [go_sem] <;> omega))) | (refine Below.alloc ?_ (by first | omega | (simp [go_sem] <;> omega)) _) | refine Below.drew ?_ | (refine Below.setCell ?_ (by first | omega | (simp [go_sem] <;> omega)) _)))

/-- One of the first n places differs from the first one. -/
def nd (m : Nat) (fs : List Nat) : Nat → Bool
  | 0 => false
  | n + 1 => nd m fs n || neP m fs n

def lawLine (m : Nat) (fs : List Nat) (n : Nat) : Bool := okF m fs n && (decide (fs.length = 0) || nd m fs n)

set_option maxHeartbeats 4000000 in
theorem lawLine_any {d : Int} (hd : D4 d) (ao : Option Addr) (cap : Nat) (fs : List Nat) (n : Nat) (hnn : n * dimN d = fs.length) (hl : (fs.length : Int) ≤ 1000000) (hw : ∀ x ∈ fs, x < 2 ^ 64) (w : World) (hc : FsSl w ao fs) :
    Calls Try.prog 47 #[.slice ao fs.length cap, .int .i64 d] w fun e w' => e = .returned (.bool (lawLine (dimN d) fs n)) ∧ Below w.heap.size w w' := by
  have h1 := Lib.hid (fun w => width_any hd w)
  have hm := dimN_cases d
  have hm2 : 2 ≤ dimN d := by omega
  have hpl := Lib.hid (fun i hi => place_lt (i := i) hnn hm2 hi)
  have hc' := Lib.hid hc
  have hw' := Lib.hid hw
  have hnn' := Lib.hid hnn
  unfold lawLine
  generalize dimN d = m at *
  clear hd hc hw
  by_cases h0 : fs.length = 0
  · have hn0 : n = 0 := by
      rcases Nat.eq_zero_or_pos n with h | h
      · exact h
      · have := Nat.mul_pos h (show 0 < m by omega); omega
    subst hn0
    rw [h0]
    go_enter Try.func47, Try.ntmps47
    go_wp2_with (go_at_call 96; refine (h1.out _).mono ?_; rintro e w' ⟨rfl, hq⟩; obtain ⟨q, rfl⟩ := gr_of_below hq; clear hq)
    go_loopw [6, 7] (fun v i wr => i = .int .i64 0 ∧ v = .bool true ∧ Below w.heap.size w wr) (fun _ _ _ => 0)
    case atStart => exact ⟨rfl, rfl, (by repeat (first | exact Below.refl _ _ | (refine below_gr' ?_ (by first | omega | (simp [go_sem] <;> omega))) | (refine Below.alloc ?_ (by first | omega | (simp [go_sem] <;> omega)) _) | refine Below.drew ?_ | (refine Below.setCell ?_ (by first | omega | (simp [go_sem] <;> omega)) _)))⟩
    case round =>
      obtain ⟨rfl, rfl, hbl⟩ := hrel
      have hbl' := Lib.hid hbl
      clear hbl
      go_wp2
      go_ret
      exact ⟨rfl, hbl'.out⟩
  · have h0' : ((fs.length : Int) == 0) = false := by rw [beq_eq_false_iff_ne]; omega
    obtain ⟨b, off, hao, hb, hfs⟩ := hc'.out (by omega)
    subst hao
    clear hc'
    rw [decide_eq_false h0, Bool.false_or]
    go_enter Try.func47, Try.ntmps47
    go_wp2_with (go_at_call 96; refine (h1.out _).mono ?_; rintro e w' ⟨rfl, hq⟩; obtain ⟨q, rfl⟩ := gr_of_below hq; clear hq)
    go_loopw [6, 7] (fun v i wr => ∃ k : Nat, k ≤ n ∧ i = .int .i64 ((k * m : Nat) : Int) ∧ v = .bool (nd m fs k) ∧ okF m fs k = true ∧ Below w.heap.size w wr) (fun _ i _ => fs.length - (intOf i).toNat)
    case atStart => exact ⟨0, Nat.zero_le _, by simp, rfl, rfl, (by repeat (first | exact Below.refl _ _ | (refine below_gr' ?_ (by first | omega | (simp [go_sem] <;> omega))) | (refine Below.alloc ?_ (by first | omega | (simp [go_sem] <;> omega)) _) | refine Below.drew ?_ | (refine Below.setCell ?_ (by first | omega | (simp [go_sem] <;> omega)) _)))⟩
    case round =>
      obtain ⟨k, hk, rfl, rfl, hok, hbl⟩ := hrel
      have hbl' := Lib.hid hbl
      have hok' := Lib.hid hok
      clear hok
      by_cases hlt : k < n
      · have hpk := hpl.out k hlt
        have hp0 := hpl.out 0 (by omega)
        rw [Nat.zero_mul, Nat.zero_add] at hp0
        have hfw := hfs.below hbl hb
        have cx : wr.cell? ⟨b, off + k * m, none⟩ = some (.float .f64 (fx m fs k)) := hfw (k * m) (by omega)
        have cy : wr.cell? ⟨b, off + (k * m + 1), none⟩ = some (.float .f64 (fy m fs k)) := hfw (k * m + 1) hpk
        have cx0 : wr.cell? ⟨b, off, none⟩ = some (.float .f64 (fx m fs 0)) := by have h := hfw 0 (by omega); rw [Nat.add_zero] at h; unfold fx; rw [Nat.zero_mul]; exact h
        have cy0 : wr.cell? ⟨b, off + 1, none⟩ = some (.float .f64 (fy m fs 0)) := by have h := hfw 1 hp0; unfold fy; rw [Nat.zero_mul]; exact h
        have hbw : b < wr.heap.size := Nat.lt_of_lt_of_le hb hbl.size
        have hj2 : Hid ((k + 1) * m = k * m + m) := Lib.hid (Nat.succ_mul k m)
        have gx := Lib.hid (fun w => gFinite_any (fx m fs k) (getD_lt hw'.out _) w)
        have gy := Lib.hid (fun w => gFinite_any (fy m fs k) (getD_lt hw'.out _) w)
        have hokn : okF m fs (k + 1) = (okF m fs k && (fin (fx m fs k) && fin (fy m fs k))) := rfl
        have hbad := Lib.hid (fun (h : (fin (fx m fs k) && fin (fy m fs k)) = false) => okF_false (m := m) (fs := fs) (k := k) h n hlt)
        have hnd : nd m fs (k + 1) = (nd m fs k || !(FloatKind.f64.format.order (fx m fs k) (fx m fs 0) == some .eq && FloatKind.f64.format.order (fy m fs k) (fy m fs 0) == some .eq)) := rfl
        generalize fx m fs 0 = x0 at *
        generalize fy m fs 0 = y0 at *
        generalize fx m fs k = x at *
        generalize fy m fs k = y at *
        generalize k * m = j at *
        clear hbl hfs hfw hpl hnn' hw'
        have hm4 : (m : Int) ≤ 4 := by omega
        have hm5 : (2 : Int) ≤ m := by omega
        cases h1x : fin x with
        | false =>
          rw [h1x] at gx hbad hokn
          have hres := Lib.hid (hbad.out rfl)
          clear hbad hokn hnd
          go_wp2_with (go_at_call 25; refine Calls.mono (by first | with_reducible exact gx.out _ | with_reducible exact gy.out _) ?_; rintro e w' ⟨rfl, rfl⟩)
          go_ret
          exact ⟨by rw [hres.out]; rfl, hbl'.out⟩
        | true =>
        cases h1y : fin y with
        | false =>
          rw [h1x] at gx
          rw [h1y] at gy
          rw [h1x, h1y] at hbad hokn
          have hres := Lib.hid (hbad.out rfl)
          clear hbad hokn hnd
          go_wp2_with (go_at_call 25; refine Calls.mono (by first | with_reducible exact gx.out _ | with_reducible exact gy.out _) ?_; rintro e w' ⟨rfl, rfl⟩)
          go_ret
          exact ⟨by rw [hres.out]; rfl, hbl'.out⟩
        | true =>
          rw [h1x] at gx
          rw [h1y] at gy
          rw [h1x, h1y, hok'.out] at hokn
          have hok2 := Lib.hid hokn
          clear hbad hokn h1x h1y
          cases hD : nd m fs k <;> cases hP : (FloatKind.f64.format.order x x0 == some .eq) <;> cases hQ : (FloatKind.f64.format.order y y0 == some .eq)
          all_goals rw [hD, hP, hQ] at hnd
          all_goals
            have hP' : (FloatKind.f64.format.order x x0 != some .eq) = !(FloatKind.f64.format.order x x0 == some .eq) := rfl
            have hQ' : (FloatKind.f64.format.order y y0 != some .eq) = !(FloatKind.f64.format.order y y0 == some .eq) := rfl
            rw [hP] at hP'
            rw [hQ] at hQ'
            simp only [Bool.not_true, Bool.not_false] at hP' hQ'
            clear hD hP hQ
          · have hnd2 : Hid (nd m fs (k + 1) = true) := Lib.hid (by rw [hnd]; simp)
            clear hnd
            go_wp2_with (go_at_call 25; refine Calls.mono (by first | with_reducible exact gx.out _ | with_reducible exact gy.out _) ?_; rintro e w' ⟨rfl, rfl⟩)
            refine wp_region_gr (by kernel_rfl) (by kernel_rfl) ?_
            repeat (first | go_big_quiet_step (fail) | quiet_step (fail))
            refine wpQuiet_nil ?_
            intro _ hw'
            obtain ⟨q, hw''⟩ := hw'
            subst hw''
            go_wp2
            go_roundw
            case rel => exact ⟨k + 1, by omega, by rw [hj2.out]; go_num, by rw [hnd2.out], hok2.out, below_gr' hbl'.out hbl'.out.size⟩
            case measure => simp [intOf]; omega
          · have hnd2 : Hid (nd m fs (k + 1) = true) := Lib.hid (by rw [hnd]; simp)
            clear hnd
            go_wp2_with (go_at_call 25; refine Calls.mono (by first | with_reducible exact gx.out _ | with_reducible exact gy.out _) ?_; rintro e w' ⟨rfl, rfl⟩)
            refine wp_region_gr (by kernel_rfl) (by kernel_rfl) ?_
            repeat (first | go_big_quiet_step (fail) | quiet_step (fail))
            refine wpQuiet_nil ?_
            intro _ hw'
            obtain ⟨q, hw''⟩ := hw'
            subst hw''
            go_wp2
            go_roundw
            case rel => exact ⟨k + 1, by omega, by rw [hj2.out]; go_num, by rw [hnd2.out], hok2.out, below_gr' hbl'.out hbl'.out.size⟩
            case measure => simp [intOf]; omega
          · have hnd2 : Hid (nd m fs (k + 1) = true) := Lib.hid (by rw [hnd]; simp)
            clear hnd
            go_wp2_with (go_at_call 25; refine Calls.mono (by first | with_reducible exact gx.out _ | with_reducible exact gy.out _) ?_; rintro e w' ⟨rfl, rfl⟩)
            refine wp_region_gr (by kernel_rfl) (by kernel_rfl) ?_
            repeat (first | go_big_quiet_step (fail) | quiet_step (fail))
            refine wpQuiet_nil ?_
            intro _ hw'
            obtain ⟨q, hw''⟩ := hw'
            subst hw''
            go_wp2
            go_roundw
            case rel => exact ⟨k + 1, by omega, by rw [hj2.out]; go_num, by rw [hnd2.out], hok2.out, below_gr' hbl'.out hbl'.out.size⟩
            case measure => simp [intOf]; omega
          · have hnd2 : Hid (nd m fs (k + 1) = false) := Lib.hid (by rw [hnd]; simp)
            clear hnd
            go_wp2_with (go_at_call 25; refine Calls.mono (by first | with_reducible exact gx.out _ | with_reducible exact gy.out _) ?_; rintro e w' ⟨rfl, rfl⟩)
            refine wp_region_gr (by kernel_rfl) (by kernel_rfl) ?_
            repeat (first | go_big_quiet_step (fail) | quiet_step (fail))
            refine wpQuiet_nil ?_
            intro _ hw'
            obtain ⟨q, hw''⟩ := hw'
            subst hw''
            go_wp2
            go_roundw
            case rel => exact ⟨k + 1, by omega, by rw [hj2.out]; go_num, by rw [hnd2.out], hok2.out, below_gr' hbl'.out hbl'.out.size⟩
            case measure => simp [intOf]; omega
          · have hnd2 : Hid (nd m fs (k + 1) = true) := Lib.hid (by rw [hnd]; simp)
            clear hnd
            go_wp2_with (go_at_call 25; refine Calls.mono (by first | with_reducible exact gx.out _ | with_reducible exact gy.out _) ?_; rintro e w' ⟨rfl, rfl⟩)
            refine wp_region_gr (by kernel_rfl) (by kernel_rfl) ?_
            repeat (first | go_big_quiet_step (fail) | quiet_step (fail))
            refine wpQuiet_nil ?_
            intro _ hw'
            obtain ⟨q, hw''⟩ := hw'
            subst hw''
            go_wp2
            go_roundw
            case rel => exact ⟨k + 1, by omega, by rw [hj2.out]; go_num, by rw [hnd2.out], hok2.out, below_gr' hbl'.out hbl'.out.size⟩
            case measure => simp [intOf]; omega
          · have hnd2 : Hid (nd m fs (k + 1) = true) := Lib.hid (by rw [hnd]; simp)
            clear hnd
            go_wp2_with (go_at_call 25; refine Calls.mono (by first | with_reducible exact gx.out _ | with_reducible exact gy.out _) ?_; rintro e w' ⟨rfl, rfl⟩)
            refine wp_region_gr (by kernel_rfl) (by kernel_rfl) ?_
            repeat (first | go_big_quiet_step (fail) | quiet_step (fail))
            refine wpQuiet_nil ?_
            intro _ hw'
            obtain ⟨q, hw''⟩ := hw'
            subst hw''
            go_wp2
            go_roundw
            case rel => exact ⟨k + 1, by omega, by rw [hj2.out]; go_num, by rw [hnd2.out], hok2.out, below_gr' hbl'.out hbl'.out.size⟩
            case measure => simp [intOf]; omega
          · have hnd2 : Hid (nd m fs (k + 1) = true) := Lib.hid (by rw [hnd]; simp)
            clear hnd
            go_wp2_with (go_at_call 25; refine Calls.mono (by first | with_reducible exact gx.out _ | with_reducible exact gy.out _) ?_; rintro e w' ⟨rfl, rfl⟩)
            refine wp_region_gr (by kernel_rfl) (by kernel_rfl) ?_
            repeat (first | go_big_quiet_step (fail) | quiet_step (fail))
            refine wpQuiet_nil ?_
            intro _ hw'
            obtain ⟨q, hw''⟩ := hw'
            subst hw''
            go_wp2
            go_roundw
            case rel => exact ⟨k + 1, by omega, by rw [hj2.out]; go_num, by rw [hnd2.out], hok2.out, below_gr' hbl'.out hbl'.out.size⟩
            case measure => simp [intOf]; omega
          · have hnd2 : Hid (nd m fs (k + 1) = true) := Lib.hid (by rw [hnd]; simp)
            clear hnd
            go_wp2_with (go_at_call 25; refine Calls.mono (by first | with_reducible exact gx.out _ | with_reducible exact gy.out _) ?_; rintro e w' ⟨rfl, rfl⟩)
            refine wp_region_gr (by kernel_rfl) (by kernel_rfl) ?_
            repeat (first | go_big_quiet_step (fail) | quiet_step (fail))
            refine wpQuiet_nil ?_
            intro _ hw'
            obtain ⟨q, hw''⟩ := hw'
            subst hw''
            go_wp2
            go_roundw
            case rel => exact ⟨k + 1, by omega, by rw [hj2.out]; go_num, by rw [hnd2.out], hok2.out, below_gr' hbl'.out hbl'.out.size⟩
            case measure => simp [intOf]; omega
      · have hkn : k = n := by omega
        subst hkn
        have hj1 : ((k * m : Nat) : Int) = (fs.length : Int) := by rw [hnn'.out]
        have hj2 : (k : Int) * (m : Int) = (fs.length : Int) := by rw [← hnn'.out, Int.natCast_mul]
        go_wp2
        go_ret
        exact ⟨by rw [hok'.out]; rfl, hbl'.out⟩
end Go.Proofs.Ytpphfoggjejpiaa
