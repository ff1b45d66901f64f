/-
  A float that stands for a whole number, turned into an integer. Conditions: as the theorems state them.
-/
import Derived.Test.YtpphfoggjejpiaaFn
import Derived.Laws.FloatArith
namespace Go.Proofs.Ytpphfoggjejpiaa.Fl
open Ieee


theorem toInt_I {x : Nat} {n : Int} (h : IsI x n) : (FloatKind.f64.decode x).toInt .zero = some n := by
  obtain ⟨s, m, e, hr⟩ := fin_iff.1 h.fin
  have hb := rd_bounds hr
  have hv := h.sc
  rw [sc_of hr, signed_eq] at hv
  show Ieee.Datum.toInt .zero (rd x) = some n
  rw [hr]
  show some (signed s (Toward.zero.cut s (m <<< e.toNat) (-e).toNat) 0) = some n
  rw [cut_down, signed_eq, Int.pow_zero, Int.mul_one, Nat.shiftLeft_eq]
  congr 1
  by_cases h0 : 0 ≤ e
  · have e1 : (-e).toNat = 0 := by omega
    have e2 : (e + 1074).toNat = e.toNat + 1074 := by omega
    rw [e1, Nat.zero_min, Nat.pow_zero, Nat.div_one]
    rw [e2, Int.pow_add, ← Int.mul_assoc (m : Int), ← Int.mul_assoc] at hv
    have := Int.eq_of_mul_eq_mul_right (Int.ne_of_gt U_pos) hv
    rw [cast_mul_pow]
    exact this
  · have e1 : e.toNat = 0 := by omega
    have e2 : 1074 = (-e).toNat + (e + 1074).toNat := by omega
    have e3 : (2 : Int) ^ 1074 = 2 ^ (-e).toNat * 2 ^ (e + 1074).toNat := by rw [← Int.pow_add, ← e2]
    rw [e3, ← Int.mul_assoc n, ← Int.mul_assoc] at hv
    have hv2 := Int.eq_of_mul_eq_mul_right (Int.ne_of_gt (pow_pos' _)) hv
    rw [e1, Nat.pow_zero, Nat.mul_one]
    obtain ⟨d, hd⟩ : ∃ d, d = (-e).toNat := ⟨_, rfl⟩
    rw [← hd] at hv2 ⊢
    have hm : m = n.natAbs * 2 ^ d := by
      have := congrArg Int.natAbs hv2
      rw [Int.natAbs_mul, Int.natAbs_mul] at this
      have p : ((2 : Int) ^ d).natAbs = 2 ^ d := by rw [Int.natAbs_pow]; rfl
      rw [p] at this
      rw [← this]
      cases s <;> simp
    by_cases hn : n.natAbs = 0
    · have hn0 : n = 0 := by omega
      subst hn0
      have : m = 0 := by rw [hm]; simp
      rw [this]; simp
    · have hpow : 2 ^ d ≤ m := by
        rw [hm]
        exact Nat.le_mul_of_pos_left _ (by omega)
      have hl : d ≤ m.log2 := (Nat.le_log2 (by have := Nat.two_pow_pos d; omega)).2 hpow
      rw [Nat.min_eq_left (by omega)]
      have hq : m / 2 ^ d = n.natAbs := by rw [hm]; exact Nat.mul_div_cancel _ (Nat.two_pow_pos d)
      rw [hq]
      have hv3 : (if s then -1 else 1) * (n.natAbs : Int) * 2 ^ d = n * 2 ^ d := by
        rw [← hv2, hm, cast_mul_pow, Int.mul_assoc]
      exact Int.eq_of_mul_eq_mul_right (Int.ne_of_gt (pow_pos' _)) hv3

theorem conv_I {P : Program} {x : Nat} {n : Int} (h : IsI x n) (hn : n.natAbs < 2 ^ 53) (src dst : TypeId) (hs : (P.underlying src).isSome = true) (hd : P.underlying dst = some (.int .i64)) (w : World) :
    (convert src dst (.float .f64 x)).run P w = .ok (.int .i64 n) w := by
  refine run_convert_float_int (P := P) (src := src) (dst := dst) (s := .f64) (k := .i64) (b := x) (n := n) hs hd ?_ (w := w)
  unfold floatToIntVal
  rw [toInt_I h]
  have : IntKind.i64.min ≤ n ∧ n ≤ IntKind.i64.max := by
    have e1 : IntKind.i64.min = -9223372036854775808 := by decide
    have e2 : IntKind.i64.max = 9223372036854775807 := by decide
    rw [e1, e2]
    omega
  simp only [this, and_self, if_true]
end Go.Proofs.Ytpphfoggjejpiaa.Fl
