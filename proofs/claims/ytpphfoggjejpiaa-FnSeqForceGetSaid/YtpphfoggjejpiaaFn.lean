/-
  Sum, difference and product of whole numbers as words, and what the walk needs of them. Conditions: the answers below 2^53.
-/
import Derived.Test.YtpphfoggjejpiaaFa
namespace Go.Proofs.Ytpphfoggjejpiaa.Fl
open Ieee

def addR (x y : Nat) : Nat := (FloatKind.f64.format.add x y).getD 0
def subR (x y : Nat) : Nat := (FloatKind.f64.format.sub x y).getD 0
def mulR (x y : Nat) : Nat := (FloatKind.f64.format.mul x y).getD 0

section
variable {P : Program} {x y : Nat} {a b : Int} (hx : IsI x a) (hy : IsI y b)
include hx hy
theorem addR_I (h : (a + b).natAbs < 2 ^ 53) : IsI (addR x y) (a + b) := by
  obtain ⟨r, h1, h2, _⟩ := add_I hx hy h
  unfold addR; rw [h1]; exact h2
theorem subR_I (h : (a - b).natAbs < 2 ^ 53) : IsI (subR x y) (a - b) := by
  obtain ⟨r, h1, h2, _⟩ := sub_I hx hy h
  unfold subR; rw [h1]; exact h2
theorem mulR_I (h : (a * b).natAbs < 2 ^ 53) : IsI (mulR x y) (a * b) := by
  obtain ⟨r, h1, h2, _⟩ := mul_I hx hy h
  unfold mulR; rw [h1]; exact h2
theorem run_add (t : TypeId) (h : (a + b).natAbs < 2 ^ 53) (w : World) : (binOp .add t (.float .f64 x) (.float .f64 y)).run P w = .ok (.float .f64 (addR x y)) w := by
  obtain ⟨r, h1, _⟩ := add_I hx hy h
  exact run_float_arith w .add t .f64 x y _ (by unfold addR; rw [h1]; exact h1)
theorem run_sub (t : TypeId) (h : (a - b).natAbs < 2 ^ 53) (w : World) : (binOp .sub t (.float .f64 x) (.float .f64 y)).run P w = .ok (.float .f64 (subR x y)) w := by
  obtain ⟨r, h1, _⟩ := sub_I hx hy h
  exact run_float_arith w .sub t .f64 x y _ (by unfold subR; rw [h1]; exact h1)
theorem run_mul (t : TypeId) (h : (a * b).natAbs < 2 ^ 53) (w : World) : (binOp .mul t (.float .f64 x) (.float .f64 y)).run P w = .ok (.float .f64 (mulR x y)) w := by
  obtain ⟨r, h1, _⟩ := mul_I hx hy h
  exact run_float_arith w .mul t .f64 x y _ (by unfold mulR; rw [h1]; exact h1)
end

theorem abs_lt_53 {n : Int} (h1 : -9007199254740992 < n) (h2 : n < 9007199254740992) : n.natAbs < 2 ^ 53 := by omega
end Go.Proofs.Ytpphfoggjejpiaa.Fl
