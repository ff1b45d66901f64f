/-
  FnLineValid: a slice of numbers as an argument; the plain law; the law answers true. Conditions: as each theorem states them.
-/
import Derived.Test.YtpphfoggjejpiaaKg
import Derived.Test.YtpphfoggjejpiaaVb
namespace Go.Proofs.Ytpphfoggjejpiaa
open Go.ChangeShapes Go.WideShapes Go.ChangeAt Go.RowKit Fl Go.Sort

section
variable {H : Type} {enc : TypeId × Value → H} {w : World} {base b0 : Nat} {spare : Nat → Bool} {held : Bool} {v : Value} {d : DataW H} {ps : List MemPlace} {r : Reach}

set_option maxRecDepth 100000 in
theorem open_fs (hval : Value.okWide Try.prog w r b0 67 v) (h : DataW.Trod enc Try.prog w base spare held 67 v d ps) :
    ∃ (ao : Option Addr) (cap : Nat) (l : List Nat), v = .slice ao l.length cap ∧ FsSl w ao l ∧ (∀ x ∈ l, x < 2 ^ 64) := by
  obtain ⟨a0, len, cap, rfl⟩ := okWide_slice Try.underlying67 hval
  obtain ⟨fuel, hf⟩ := h
  rcases Go.Deep.open_slice Try.underlying67 hf with ⟨hcs, _⟩ | ⟨a, len', cap', m, n, D, Pl, hcs, _, hl, hcm, hm, _, hel⟩
  · simp only [Value.cells, List.cons.injEq, Value.slice.injEq, and_true] at hcs
    obtain ⟨rfl, rfl, rfl⟩ := hcs
    exact ⟨_, _, [], rfl, (fun h => absurd h (by simp)), by simp⟩
  · simp only [Value.cells, List.cons.injEq, Value.slice.injEq, and_true] at hcs
    obtain ⟨rfl, rfl, rfl⟩ := hcs
    have hlm : len ≤ m := by rw [hm]; split <;> omega
    have hpt : ∀ i, i < len → ∃ p : Nat, w.cell? (a.add i) = some (.float .f64 p) ∧ p < 2 ^ 64 := by
      intro i hi
      obtain ⟨cs', h1, h2⟩ := hel i (by omega)
      rw [show Try.prog.cellsOf 22 = 1 by kernel_rfl] at h1
      obtain ⟨_, hlen, hc⟩ := World.cells?_some h1
      match cs', hlen with
      | [c0], _ =>
        obtain ⟨x, f0, _, wx⟩ := trod_float Try.underlying22 h2
        simp only [List.cons.injEq, and_true] at f0
        subst f0
        refine ⟨x, ?_, f64_lt wx⟩
        have := hc 0 (by omega)
        rw [Nat.mul_one] at this
        have e0 : (a.add i).add 0 = a.add i := by unfold Addr.add; split <;> simp_all
        rw [e0] at this
        exact this
    obtain ⟨l, hll, hl2⟩ := list_of 0 len hpt
    have hwl : ∀ p ∈ l, p < 2 ^ 64 := by
      intro p hp
      obtain ⟨i, hi, rfl⟩ := List.mem_iff_getElem.1 hp
      have := (hl2 i (by omega)).2
      simpa [List.getElem?_eq_getElem hi] using this
    refine ⟨_, cap, l, by rw [hll], fun h0 => ?_, hwl⟩
    obtain ⟨b, off, spot⟩ := a
    have hspot : spot = none := by
      have := (hl2 0 (by omega)).1
      simpa [Addr.add] using World.cell?_spot this
    subst hspot
    refine ⟨b, off, rfl, ?_, fun i hi => ?_⟩
    · have := (hl2 0 (by omega)).1
      rw [show (⟨b, off, none⟩ : Addr).add 0 = ⟨b, off + 0, none⟩ from rfl] at this
      exact World.block_lt_of_cell? w _ this
    · have := (hl2 i (by omega)).1
      rw [addr_off] at this
      exact this
end

theorem nd_an {m : Nat} {fs : List Nat} : ∀ n, okF m fs n = true → nd m fs n = an1 m fs n
  | 0, _ => rfl
  | n + 1, h => by
    unfold okF at h
    obtain ⟨h1, h2⟩ := Bool.and_eq_true_iff.1 h
    unfold nd an1
    rw [nd_an n h1]
    rcases Nat.eq_zero_or_pos n with h0 | h0
    · subst h0
      unfold okP at h2
      obtain ⟨f1, f2⟩ := Bool.and_eq_true_iff.1 h2
      have : neP m fs 0 = false := by
        unfold neP
        rw [eq_fin f1 f1, eq_fin f2 f2]
        simp
      rw [this]
      simp
    · rw [decide_eq_true h0, Bool.true_and]

theorem line_plain {m n : Nat} {fs : List Nat} (hm : 2 ≤ m) (hn : n * m = fs.length) : lineOk m fs n = lawLine m fs n := by
  unfold lineOk lawLine
  rcases Nat.eq_zero_or_pos n with h0 | h0
  · subst h0
    have : fs.length = 0 := by omega
    rw [this]
    rfl
  · have hl : ¬ fs.length = 0 := by have := Nat.mul_pos h0 (show 0 < m by omega); omega
    rw [decide_eq_false (by omega : ¬ n = 0), decide_eq_false hl, Bool.false_or, Bool.false_or]
    cases hok : okF m fs n with
    | false => rfl
    | true => rw [nd_an n hok]

theorem lv_long (ao : Option Addr) (n cap : Nat) (d : Int) (h : (2147483647 : Int) < (n : Int)) (w : World) :
    Calls Try.prog 11 #[.slice ao n cap, .int .i64 d] w fun e w' => e = .returned (.bool true) ∧ Below w.heap.size w w' := by
  have h1 : decide ((2147483647 : Int) < (n : Int)) = true := decide_eq_true h
  clear h
  go_enter Try.func11, Try.ntmps11
  go_wp2
  go_ret
  exact ⟨rfl, (by repeat (first | exact Below.refl _ _ | (refine below_gr' ?_ (by first | omega | (simp [go_sem] <;> omega))) | (refine Below.alloc ?_ (by first | omega | (simp [go_sem] <;> omega)) _) | refine Below.drew ?_ | (refine Below.setCell ?_ (by first | omega | (simp [go_sem] <;> omega)) _)))⟩

set_option maxHeartbeats 1000000 in
theorem lv_bad (ao : Option Addr) (n cap : Nat) (d : Int) (h : ¬ (2147483647 : Int) < (n : Int)) (hb : ∀ w, Calls Try.prog 45 #[.slice ao n cap, .int .i64 d] w fun e w' => e = .returned noLine ∧ Below w.heap.size w w') (w : World) :
    Calls Try.prog 11 #[.slice ao n cap, .int .i64 d] w fun e w' => e = .returned (.bool true) ∧ Below w.heap.size w w' := by
  have h1 : decide ((2147483647 : Int) < (n : Int)) = false := decide_eq_false h
  have hb' := Lib.hid hb
  unfold noLine at hb'
  clear h hb
  go_enter Try.func11, Try.ntmps11
  go_wp2_with (go_at_call 45; refine (hb'.out _).mono ?_; rintro e w' ⟨rfl, hq⟩; obtain ⟨q, rfl⟩ := gr_of_below hq; clear hq)
  go_ret
  exact ⟨rfl, (by repeat (first | exact Below.refl _ _ | (refine below_gr' ?_ (by first | omega | (simp [go_sem] <;> omega))) | (refine Below.alloc ?_ (by first | omega | (simp [go_sem] <;> omega)) _) | refine Below.drew ?_ | (refine Below.setCell ?_ (by first | omega | (simp [go_sem] <;> omega)) _)))⟩

set_option maxHeartbeats 1000000 in
theorem lv_many (ao : Option Addr) (n cap : Nat) (d : Int) (h : ¬ (2147483647 : Int) < (n : Int)) (h2 : (2000 : Int) < (n : Int)) (hb : ∀ w, Calls Try.prog 45 #[.slice ao n cap, .int .i64 d] w fun e w' => e = .returned (.tuple #[lineV d ao n cap none 0 0, .bool true]) ∧ Below w.heap.size w w') (w : World) :
    Calls Try.prog 11 #[.slice ao n cap, .int .i64 d] w fun e w' => e = .returned (.bool true) ∧ Below w.heap.size w w' := by
  have h1 : decide ((2147483647 : Int) < (n : Int)) = false := decide_eq_false h
  have h3 : decide ((2000 : Int) < (n : Int)) = true := decide_eq_true h2
  have hb' := Lib.hid hb
  unfold lineV at hb'
  clear h h2 hb
  go_enter Try.func11, Try.ntmps11
  go_wp2_with (go_at_call 45; refine (hb'.out _).mono ?_; rintro e w' ⟨rfl, hq⟩; obtain ⟨q, rfl⟩ := gr_of_below hq; clear hq)
  go_ret
  exact ⟨rfl, (by repeat (first | exact Below.refl _ _ | (refine below_gr' ?_ (by first | omega | (simp [go_sem] <;> omega))) | (refine Below.alloc ?_ (by first | omega | (simp [go_sem] <;> omega)) _) | refine Below.drew ?_ | (refine Below.setCell ?_ (by first | omega | (simp [go_sem] <;> omega)) _)))⟩

set_option maxHeartbeats 1000000 in
theorem lv_main {d : Int} (hd : D4 d) (ao : Option Addr) (cap : Nat) (fs : List Nat) (n : Nat) (hnn : n * dimN d = fs.length) (h2 : ¬ (2000 : Int) < (fs.length : Int)) (hw : ∀ x ∈ fs, x < 2 ^ 64) (w : World) (hc : FsSl w ao fs) :
    Calls Try.prog 11 #[.slice ao fs.length cap, .int .i64 d] w fun e w' => e = .returned (.bool true) ∧ Below w.heap.size w w' := by
  have hr : Int.tmod (fs.length : Int) (dimN d : Int) = 0 := by
    rw [← hnn]
    exact congrArg Int.ofNat (Nat.mul_mod_left n (dimN d))
  have hm2 : 2 ≤ dimN d := by rcases dimN_cases d with h | h | h <;> omega
  have h1 : decide ((2147483647 : Int) < (fs.length : Int)) = false := decide_eq_false (by omega)
  have h3 : decide ((2000 : Int) < (fs.length : Int)) = false := decide_eq_false h2
  have hb' := Lib.hid (fun w => lineOf_good hd ao fs.length cap (by omega) hr w)
  have hv := Lib.hid (fun w' (hb : Below w.heap.size w w') => lineValid_any hd ao cap fs none 0 0 n hnn (by omega) hw w' (hc.below hb))
  have hl := Lib.hid (fun w' (hb : Below w.heap.size w w') => lawLine_any hd ao cap fs n hnn (by omega) hw w' (hc.below hb))
  rw [← line_plain hm2 hnn] at hl
  generalize lineOk (dimN d) fs n = R at *
  unfold lineV at *
  clear hd hnn h2 hw hc hr hm2
  go_enter Try.func11, Try.ntmps11
  go_wp2_with (first | (go_at_call 45; refine (hb'.out _).mono ?_; rintro e w' ⟨rfl, hq⟩; obtain ⟨q, rfl⟩ := gr_of_below hq; clear hq) | (go_at_call 46; refine (hv.out _ (by repeat (first | exact Below.refl _ _ | (refine below_gr' ?_ (by first | omega | (simp [go_sem] <;> omega))) | (refine Below.alloc ?_ (by first | omega | (simp [go_sem] <;> omega)) _) | refine Below.drew ?_ | (refine Below.setCell ?_ (by first | omega | (simp [go_sem] <;> omega)) _)))).mono ?_; rintro e w' ⟨rfl, hq⟩; obtain ⟨q, rfl⟩ := gr_of_below hq; clear hq) | (go_at_call 47; refine (hl.out _ (by repeat (first | exact Below.refl _ _ | (refine below_gr' ?_ (by first | omega | (simp [go_sem] <;> omega))) | (refine Below.alloc ?_ (by first | omega | (simp [go_sem] <;> omega)) _) | refine Below.drew ?_ | (refine Below.setCell ?_ (by first | omega | (simp [go_sem] <;> omega)) _)))).mono ?_; rintro e w' ⟨rfl, hq⟩; obtain ⟨q, rfl⟩ := gr_of_below hq; clear hq))
  go_ret
  exact ⟨by simp, (by repeat (first | exact Below.refl _ _ | (refine below_gr' ?_ (by first | omega | (simp [go_sem] <;> omega))) | (refine Below.alloc ?_ (by first | omega | (simp [go_sem] <;> omega)) _) | refine Below.drew ?_ | (refine Below.setCell ?_ (by first | omega | (simp [go_sem] <;> omega)) _)))⟩

theorem lv_true (ao : Option Addr) (cap : Nat) (fs : List Nat) (d : Int) (hw : ∀ x ∈ fs, x < 2 ^ 64) (w : World) (hc : FsSl w ao fs) :
    Calls Try.prog 11 #[.slice ao fs.length cap, .int .i64 d] w fun e w' => e = .returned (.bool true) ∧ Below w.heap.size w w' := by
  by_cases h : (2147483647 : Int) < (fs.length : Int)
  · exact lv_long ao fs.length cap d h w
  by_cases hd : D4 d
  · by_cases hr : Int.tmod (fs.length : Int) (dimN d : Int) = 0
    · by_cases h2 : (2000 : Int) < (fs.length : Int)
      · exact lv_many ao fs.length cap d h h2 (fun w => lineOf_good hd ao fs.length cap (by omega) hr w) w
      · have hnn : fs.length / dimN d * dimN d = fs.length := by
          have e : fs.length % dimN d = 0 := Int.ofNat.inj hr
          exact Nat.div_mul_cancel (Nat.dvd_of_mod_eq_zero e)
        exact lv_main hd ao cap fs _ hnn h2 hw w hc
    · exact lv_bad ao fs.length cap d h (fun w => lineOf_bad hd ao fs.length cap (by omega) hr w) w
  · exact lv_bad ao fs.length cap d h (fun w => lineOf_dim (by unfold D4 at hd; omega) ao fs.length cap w) w
end Go.Proofs.Ytpphfoggjejpiaa
