/-
  Plain facts on the numbers of 64 bits, continued: the tests for NaN and infinity, whole numbers, from whole numbers and back. Conditions: as each theorem states them.
-/
import Derived.Test.YtpphfoggjejpiaaFl
import Derived.WalkKit
namespace Go.Proofs.Ytpphfoggjejpiaa.Fl
open Ieee

/-- 'x != x'. -/
def nanB (x : Nat) : Bool := FloatKind.f64.format.order x x != some .eq
/-- The sign struck. -/
def absB (x : Nat) : Nat := (bits .andNot .u64 (x : Int) 9223372036854775808).toNat
def infB (x : Nat) : Bool := FloatKind.f64.format.order (absB x) 9218868437227405311 == some .gt

theorem nanB_fin {x : Nat} (h : fin x = true) : nanB x = false := by
  unfold nanB; rw [ne_fin h h]; simp

theorem absB_eq (x : Nat) (hx : x < 2 ^ 64) : absB x = x % 2 ^ 63 := by
  unfold absB
  rw [u64_andNot _ _ (by omega) (by omega) (by omega) (by omega)]
  have : (18446744073709551615 - (9223372036854775808 : Int).toNat) = 2 ^ 63 - 1 := by decide
  rw [this, Nat.and_two_pow_sub_one_eq_mod]
  omega

theorem rd_abs (x : Nat) : rd (x % 2 ^ 63) = (match rd x with | .number _ m e => .number false m e | .infinity _ => .infinity false | .nan _ t => .nan false t) := by
  rw [rd_eq, rd_eq]
  dsimp only
  have e1 : x % 2 ^ 63 % 2 ^ 63 = x % 2 ^ 63 := by omega
  have e2 : (x % 2 ^ 63 / 2 ^ 63 % 2 == 1) = false := by
    have : x % 2 ^ 63 / 2 ^ 63 % 2 = 0 := by omega
    rw [this]; rfl
  rw [e1, e2]
  by_cases h1 : x % 2 ^ 63 < 2 ^ 52
  · rw [if_pos h1, if_pos h1]
  · rw [if_neg h1, if_neg h1]
    by_cases h2 : x % 2 ^ 63 < 2047 * 2 ^ 52
    · rw [if_pos h2, if_pos h2]
    · rw [if_neg h2, if_neg h2]
      by_cases h3 : x % 2 ^ 63 = 2047 * 2 ^ 52
      · rw [if_pos h3, if_pos h3]
      · rw [if_neg h3, if_neg h3]

theorem rd_max : rd 9218868437227405311 = .number false (2 ^ 53 - 1) 971 := by decide +kernel

theorem cast_mul_pow (a k : Nat) : ((a * 2 ^ k : Nat) : Int) = (a : Int) * 2 ^ k := by simp [Int.natCast_mul, Int.natCast_pow]

set_option exponentiation.threshold 4000 in
theorem infB_fin {x : Nat} (hx : x < 2 ^ 64) (h : fin x = true) : infB x = false := by
  obtain ⟨s, m, e, hr⟩ := fin_iff.1 h
  have hb := rd_bounds hr
  have h1 : rd (x % 2 ^ 63) = .number false m e := by rw [rd_abs, hr]
  unfold infB
  rw [absB_eq x hx, gt_fin (fin_iff.2 ⟨_, _, _, h1⟩) (fin_iff.2 ⟨_, _, _, rd_max⟩), sc_of h1, sc_of rd_max, signed_eq, signed_eq]
  simp only [Bool.false_eq_true, if_false, Int.one_mul, decide_eq_false_iff_not, Int.not_lt]
  have e1 : ((m : Int) * 2 ^ (e + 1074).toNat) = ((m * 2 ^ (e + 1074).toNat : Nat) : Int) := by simp [Int.natCast_mul, Int.natCast_pow]
  have e2 : (((2 ^ 53 - 1 : Nat) : Int) * 2 ^ ((971 : Int) + 1074).toNat) = (((2 ^ 53 - 1) * 2 ^ 2045 : Nat) : Int) := by
    have : ((971 : Int) + 1074).toNat = 2045 := by decide
    rw [this, cast_mul_pow]
  rw [e1, e2]
  refine Int.ofNat_le.2 (Nat.mul_le_mul (by omega) (Nat.pow_le_pow_right (by decide) (by omega)))

/-- Neither NaN nor infinite is finite. -/
theorem fin_eq {x : Nat} (hx : x < 2 ^ 64) : (!nanB x && !infB x) = fin x := by
  cases h : fin x with
  | true => rw [nanB_fin h, infB_fin hx h]; rfl
  | false =>
    cases hr : rd x with
    | number s m e => rw [fin_iff.2 ⟨_, _, _, hr⟩] at h; cases h
    | infinity s =>
      have h1 : rd (x % 2 ^ 63) = .infinity false := by rw [rd_abs, hr]
      have : infB x = true := by
        unfold infB; rw [absB_eq x hx]
        show (Datum.order (rd (x % 2 ^ 63)) (rd 9218868437227405311) == some .gt) = true
        rw [h1, rd_max]; rfl
      rw [this]; simp
    | nan s t =>
      have : nanB x = true := by
        unfold nanB
        show (Datum.order (rd x) (rd x) != some .eq) = true
        rw [hr]; rfl
      rw [this]; simp

/-! ### whole numbers -/

/-- The word stands for the whole number n. -/
structure IsI (x : Nat) (n : Int) : Prop where
  fin : fin x = true
  sc : sc x = n * 2 ^ 1074

theorem U_pos : (0 : Int) < 2 ^ 1074 := pow_pos' 1074

section
variable {x y : Nat} {a b : Int} (hx : IsI x a) (hy : IsI y b)
include hx hy
theorem sc_lt : (sc x < sc y) ↔ a < b := by
  rw [hx.sc, hy.sc]
  exact ⟨fun h => Int.lt_of_mul_lt_mul_right h (Int.le_of_lt U_pos), fun h => Int.mul_lt_mul_of_pos_right h U_pos⟩
theorem sc_eq : (sc x = sc y) ↔ a = b := by
  rw [hx.sc, hy.sc]
  exact ⟨fun h => Int.eq_of_mul_eq_mul_right (Int.ne_of_gt U_pos) h, fun h => by rw [h]⟩
theorem sc_le : (sc x ≤ sc y) ↔ a ≤ b := by
  rw [← Int.not_lt, ← Int.not_lt, sc_lt hy hx]
theorem lt_I : (FloatKind.f64.format.order x y == some .lt) = decide (a < b) := by rw [lt_fin hx.fin hy.fin]; exact decide_eq_decide.2 (sc_lt hx hy)
theorem eq_I : (FloatKind.f64.format.order x y == some .eq) = decide (a = b) := by rw [eq_fin hx.fin hy.fin]; exact decide_eq_decide.2 (sc_eq hx hy)
theorem ne_I : (FloatKind.f64.format.order x y != some .eq) = decide (a ≠ b) := by rw [ne_fin hx.fin hy.fin]; exact decide_eq_decide.2 (not_congr (sc_eq hx hy))
theorem gt_I : (FloatKind.f64.format.order x y == some .gt) = decide (b < a) := by rw [gt_fin hx.fin hy.fin]; exact decide_eq_decide.2 (sc_lt hy hx)
theorem le_I : (FloatKind.f64.format.order x y == some .lt || FloatKind.f64.format.order x y == some .eq) = decide (a ≤ b) := by rw [le_fin hx.fin hy.fin]; exact decide_eq_decide.2 (sc_le hx hy)
theorem ge_I : (FloatKind.f64.format.order x y == some .gt || FloatKind.f64.format.order x y == some .eq) = decide (b ≤ a) := by rw [ge_fin hx.fin hy.fin]; exact decide_eq_decide.2 (sc_le hy hx)

theorem add_I (h : (a + b).natAbs < 2 ^ 53) : ∃ r, FloatKind.f64.format.add x y = some r ∧ IsI r (a + b) ∧ r < 2 ^ 64 := by
  obtain ⟨r, h1, h2, h3, h4⟩ := sum_fin hx.fin hy.fin (a + b) 1074 h (by decide) (by rw [hx.sc, hy.sc, Int.add_mul])
  exact ⟨r, h1, ⟨h2, h3⟩, h4⟩
theorem sub_I (h : (a - b).natAbs < 2 ^ 53) : ∃ r, FloatKind.f64.format.sub x y = some r ∧ IsI r (a - b) ∧ r < 2 ^ 64 := by
  obtain ⟨r, h1, h2, h3, h4⟩ := sub_fin hx.fin hy.fin (a - b) 1074 h (by decide) (by rw [hx.sc, hy.sc, Int.sub_mul])
  exact ⟨r, h1, ⟨h2, h3⟩, h4⟩
theorem mul_I (h : (a * b).natAbs < 2 ^ 53) : ∃ r, FloatKind.f64.format.mul x y = some r ∧ IsI r (a * b) ∧ r < 2 ^ 64 := by
  obtain ⟨r, h1, h2, h3, h4⟩ := mul_fin hx.fin hy.fin a b 1074 1074 h (by decide) (by decide) hx.sc hy.sc
  exact ⟨r, h1, ⟨h2, h3⟩, h4⟩
end

/-- 'float64(n)'. -/
theorem of_int (n : Int) (h : n.natAbs < 2 ^ 53) : IsI (floatOfInt .f64 n) n ∧ floatOfInt .f64 n < 2 ^ 64 := by
  have e : signed (decide (n < 0)) n.natAbs ((0 : Int) + 1074).toNat = n * 2 ^ 1074 := by
    rw [signed_eq]
    have e1 : ((0 : Int) + 1074).toNat = 1074 := by decide
    rw [e1]
    by_cases hn : n < 0
    · simp only [hn, decide_true, if_true]
      have : ((n.natAbs : Nat) : Int) = -n := by omega
      rw [this, Int.neg_mul, Int.neg_mul, Int.one_mul, Int.neg_neg]
    · simp only [hn, decide_false, Bool.false_eq_true, if_false]
      have : ((n.natAbs : Nat) : Int) = n := by omega
      rw [this, Int.one_mul]
  obtain ⟨h1, h2, h3⟩ := write_val (decide (n < 0)) n.natAbs 0 n 1074 (fun _ => by decide) h (by decide) e
  exact ⟨⟨h1, h2⟩, h3⟩

/-- A constant: checked by its parts. -/
theorem isI_const {x : Nat} {s : Bool} {m : Nat} {e : Int} (n : Int) (h : rd x = .number s m e) (he : -1074 ≤ e) (hv : if 0 ≤ e then (if s then -1 else 1) * ((m : Int) * 2 ^ e.toNat) = n else (if s then -1 else 1) * (m : Int) = n * 2 ^ (-e).toNat) : IsI x n := by
  refine ⟨fin_iff.2 ⟨_, _, _, h⟩, ?_⟩
  rw [sc_of h, signed_eq]
  split at hv
  · have e1 : (e + 1074).toNat = e.toNat + 1074 := by omega
    rw [e1, Int.pow_add, ← hv, Int.mul_assoc, Int.mul_assoc]
  · have e1 : 1074 = (-e).toNat + (e + 1074).toNat := by omega
    have e2 : (2 : Int) ^ 1074 = 2 ^ (-e).toNat * 2 ^ (e + 1074).toNat := by rw [← Int.pow_add, ← e1]
    rw [e2, ← Int.mul_assoc n, ← hv, Int.mul_assoc]

/-- Cut towards zero, as a word. -/
def truncB (x : Nat) : Nat := FloatKind.f64.encode ((FloatKind.f64.decode x).integral .zero)

theorem cut_down (s : Bool) (n d : Nat) : Toward.zero.cut s n d = n / 2 ^ (min d (n.log2 + 2)) := by
  unfold Toward.cut
  simp [Nat.shiftLeft_eq]

/-- A finite number that equals itself cut is whole. -/
theorem whole_of_trunc {x : Nat} (h : fin x = true) (he : FloatKind.f64.format.order x (truncB x) == some .eq) : ∃ n, IsI x n := by
  obtain ⟨s, m, e, hr⟩ := fin_iff.1 h
  have hb := rd_bounds hr
  by_cases h0 : 0 ≤ e
  · refine ⟨(if s then -1 else 1) * ((m : Int) * 2 ^ e.toNat), isI_const _ hr hb.1 ?_⟩
    rw [if_pos h0]
  · have ht : truncB x = Ieee.double.nearest s (m / 2 ^ (min (-e).toNat (m.log2 + 2))) 0 := by
      show Ieee.double.write ((rd x).integral .zero) = _
      rw [hr]
      show Ieee.double.nearest s (Toward.zero.cut s (m <<< e.toNat) (-e).toNat) 0 = _
      have : e.toNat = 0 := by omega
      rw [this, Nat.shiftLeft_zero, cut_down]
    obtain ⟨q, hq⟩ : ∃ q, q = m / 2 ^ (min (-e).toNat (m.log2 + 2)) := ⟨_, rfl⟩
    rw [← hq] at ht
    have hq53 : q < 2 ^ 53 := by rw [hq]; exact Nat.lt_of_le_of_lt (Nat.div_le_self _ _) hb.2.2
    have hv : signed s q ((0 : Int) + 1074).toNat = ((if s then -1 else 1) * (q : Int)) * 2 ^ 1074 := by
      rw [signed_eq, Int.mul_assoc]; rfl
    obtain ⟨h1, h2, h3⟩ := write_val s q 0 ((if s then -1 else 1) * (q : Int)) 1074 (fun _ => by decide) (by cases s <;> simp <;> omega) (by decide) hv
    rw [← ht] at h1 h2
    rw [eq_fin h h1] at he
    exact ⟨_, h, by rw [of_decide_eq_true he, h2]⟩

theorem rd_p20 : rd 4697254411347427328 = .number false (2 ^ 52) (-32) := by decide +kernel
theorem rd_m20 : rd 13920626448202203136 = .number true (2 ^ 52) (-32) := by decide +kernel
theorem isI_p20 : IsI 4697254411347427328 1048576 := isI_const _ rd_p20 (by decide) (by decide)
theorem isI_m20 : IsI 13920626448202203136 (-1048576) := isI_const _ rd_m20 (by decide) (by decide)
theorem rd_zero : rd 0 = .number false 0 (-1074) := by decide +kernel
set_option exponentiation.threshold 4000 in
theorem isI_zero : IsI 0 0 := ⟨fin_iff.2 ⟨_, _, _, rd_zero⟩, by rw [sc_of rd_zero, signed_eq]; simp⟩

end Go.Proofs.Ytpphfoggjejpiaa.Fl
