/-
  The walks over boxes, continued: distance, meeting, the thin package's doors. Conditions: whole ends from -2^20 to 2^20 where the distance is asked.
-/
import Derived.Test.YtpphfoggjejpiaaBx
import Derived.Test.YtpphfoggjejpiaaFn
namespace Go.Proofs.Ytpphfoggjejpiaa
open Go.RowKit Fl Go.Sort

theorem maxR_I {x y : Nat} {a b : Int} (hx : IsI x a) (hy : IsI y b) : IsI (maxR x y) (if b < a then a else b) := by
  unfold maxR gtB
  rw [gt_I hx hy]
  by_cases h : b < a
  · simp [h, hx]
  · simp [h, hy]
theorem minR_I {x y : Nat} {a b : Int} (hx : IsI x a) (hy : IsI y b) : IsI (minR x y) (if a < b then a else b) := by
  unfold minR ltB
  rw [lt_I hx hy]
  by_cases h : a < b
  · simp [h, hx]
  · simp [h, hy]

/-- How far two ranges are apart. -/
def gapR (a0 a1 c0 c1 : Nat) : Nat := maxR 0 (maxR (subR a0 c1) (subR c0 a1))
def gapI (a0 a1 c0 c1 : Int) : Int := if (if c0 - a1 < a0 - c1 then a0 - c1 else c0 - a1) < 0 then 0 else (if c0 - a1 < a0 - c1 then a0 - c1 else c0 - a1)

def distR (a0 b0 a1 b1 c0 d0 c1 d1 : Nat) : Nat := addR (mulR (gapR a0 a1 c0 c1) (gapR a0 a1 c0 c1)) (mulR (gapR b0 b1 d0 d1) (gapR b0 b1 d0 d1))

/-- A whole number from -2^20 to 2^20. -/
structure Sm (x : Nat) (n : Int) : Prop where
  i : IsI x n
  lo : -1048576 ≤ n
  hi : n ≤ 1048576

theorem gapI_range {a0 a1 c0 c1 : Int} (h0 : -1048576 ≤ a0 ∧ a0 ≤ 1048576) (h1 : -1048576 ≤ a1 ∧ a1 ≤ 1048576) (h2 : -1048576 ≤ c0 ∧ c0 ≤ 1048576) (h3 : -1048576 ≤ c1 ∧ c1 ≤ 1048576) :
    0 ≤ gapI a0 a1 c0 c1 ∧ gapI a0 a1 c0 c1 ≤ 2097152 := by
  unfold gapI; split <;> split at * <;> omega

theorem gapR_I {a0 a1 c0 c1 : Nat} {A0 A1 C0 C1 : Int} (h0 : Sm a0 A0) (h1 : Sm a1 A1) (h2 : Sm c0 C0) (h3 : Sm c1 C1) : IsI (gapR a0 a1 c0 c1) (gapI A0 A1 C0 C1) := by
  have s1 := subR_I h0.i h3.i (abs_lt_53 (by have := h0.lo; have := h3.hi; omega) (by have := h0.hi; have := h3.lo; omega))
  have s2 := subR_I h2.i h1.i (abs_lt_53 (by have := h2.lo; have := h1.hi; omega) (by have := h2.hi; have := h1.lo; omega))
  have := maxR_I isI_zero (maxR_I s1 s2)
  unfold gapR gapI
  exact this

theorem sq_lt {n : Int} (h0 : 0 ≤ n) (h1 : n ≤ 2097152) : 0 ≤ n * n ∧ n * n ≤ 4398046511104 := by
  refine ⟨Int.mul_nonneg h0 h0, ?_⟩
  have : n * n ≤ 2097152 * 2097152 := Int.mul_le_mul h1 h1 h0 (by omega)
  omega

set_option maxHeartbeats 800000 in
theorem dist_any {a0 b0 a1 b1 c0 d0 c1 d1 : Nat} {A0 B0 A1 B1 C0 D0 C1 D1 : Int} (ha0 : Sm a0 A0) (hb0 : Sm b0 B0) (ha1 : Sm a1 A1) (hb1 : Sm b1 B1) (hc0 : Sm c0 C0) (hd0 : Sm d0 D0) (hc1 : Sm c1 C1) (hd1 : Sm d1 D1) (w : World) :
    Calls Try.prog 117 #[boxV a0 b0 a1 b1, boxV c0 d0 c1 d1] w fun e w' => e = .returned (.float .f64 (distR a0 b0 a1 b1 c0 d0 c1 d1)) ∧ Below w.heap.size w w' := by
  have s1 := run_sub (P := Try.prog) ha0.i hc1.i 22 (abs_lt_53 (by have := ha0.lo; have := hc1.hi; omega) (by have := ha0.hi; have := hc1.lo; omega))
  have s2 := run_sub (P := Try.prog) hc0.i ha1.i 22 (abs_lt_53 (by have := hc0.lo; have := ha1.hi; omega) (by have := hc0.hi; have := ha1.lo; omega))
  have s3 := run_sub (P := Try.prog) hb0.i hd1.i 22 (abs_lt_53 (by have := hb0.lo; have := hd1.hi; omega) (by have := hb0.hi; have := hd1.lo; omega))
  have s4 := run_sub (P := Try.prog) hd0.i hb1.i 22 (abs_lt_53 (by have := hd0.lo; have := hb1.hi; omega) (by have := hd0.hi; have := hb1.lo; omega))
  have g1 := gapR_I ha0 ha1 hc0 hc1
  have g2 := gapR_I hb0 hb1 hd0 hd1
  have r1 := gapI_range ⟨ha0.lo, ha0.hi⟩ ⟨ha1.lo, ha1.hi⟩ ⟨hc0.lo, hc0.hi⟩ ⟨hc1.lo, hc1.hi⟩
  have r2 := gapI_range ⟨hb0.lo, hb0.hi⟩ ⟨hb1.lo, hb1.hi⟩ ⟨hd0.lo, hd0.hi⟩ ⟨hd1.lo, hd1.hi⟩
  have q1 := sq_lt r1.1 r1.2
  have q2 := sq_lt r2.1 r2.2
  have m1 := run_mul (P := Try.prog) g1 g1 22 (abs_lt_53 (by omega) (by omega))
  have m2 := run_mul (P := Try.prog) g2 g2 22 (abs_lt_53 (by omega) (by omega))
  have p1 := run_add (P := Try.prog) (mulR_I g1 g1 (abs_lt_53 (by omega) (by omega))) (mulR_I g2 g2 (abs_lt_53 (by omega) (by omega))) 22 (abs_lt_53 (by omega) (by omega))
  clear ha0 hb0 ha1 hb1 hc0 hd0 hc1 hd1 g1 g2 r1 r2 q1 q2
  unfold boxV
  unfold gapR at m1 m2 p1
  go_enter Try.func117, Try.ntmps117
  go_wp2_with (go_at_call 169; refine (rmax_any _ _ _).mono ?_; rintro e w' ⟨rfl, rfl⟩)
  go_ret
  exact ⟨rfl, (by repeat (first | exact Below.refl _ _ | (refine below_gr' ?_ (by first | omega | (simp [go_sem] <;> omega))) | (refine Below.alloc ?_ (by first | omega | (simp [go_sem] <;> omega)) _) | refine Below.drew ?_ | (refine Below.setCell ?_ (by first | omega | (simp [go_sem] <;> omega)) _)))⟩
end Go.Proofs.Ytpphfoggjejpiaa
