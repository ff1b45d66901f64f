/-
  The walk over Sequence.Get. Conditions: as the theorem states them.
-/
import Derived.Test.YtpphfoggjejpiaaMc
namespace Go.Proofs.Ytpphfoggjejpiaa
open Go.RowKit Fl Go.Sort

def coV (d : Int) (x y z m : Nat) : Value := .agg #[.float .f64 x, .float .f64 y, .float .f64 z, .float .f64 m, .int .u8 d]
/-- Z and M of the place that begins at j. -/
def fz (d : Int) (fs : List Nat) (j : Nat) : Nat := if d = 1 ∨ d = 3 then fs[j + 2]?.getD 0 else 0
def fm (d : Int) (fs : List Nat) (j : Nat) : Nat := if d = 2 then fs[j + 2]?.getD 0 else if d = 3 then fs[j + 3]?.getD 0 else 0

set_option maxHeartbeats 2000000 in
theorem get_any {d : Int} (hd : D4 d) (b cap i j : Nat) (fs : List Nat) (hj : i * dimN d = j) (hlt : j + dimN d ≤ fs.length) (hn : (fs.length : Int) ≤ 1000000) (w : World) (hb : b < w.heap.size) (hc : FsAt w b 0 fs) :
    Calls Try.prog 91 #[seqV d b fs.length cap, .int .i64 i] w fun e w' => e = .returned (coV d (fs[j]?.getD 0) (fs[j + 1]?.getD 0) (fz d fs j) (fm d fs j)) ∧ Below w.heap.size w w' := by
  have h1 := Lib.hid (fun w => dim_any hd w)
  have hm2 : 2 ≤ dimN d := by rcases dimN_cases d with h | h | h <;> omega
  have c0 := hc j (by omega)
  have c1 := hc (j + 1) (by omega)
  rw [Nat.zero_add] at c0 c1
  generalize fs[j]?.getD 0 = x at *
  generalize fs[j + 1]?.getD 0 = y at *
  have hc' := Lib.hid hc
  clear hc hm2
  unfold coV seqV
  rcases hd with rfl | rfl | rfl | rfl
  · skip
    rw [show fz 0 fs j = 0 from rfl, show fm 0 fs j = 0 from rfl]
    rw [show dimN 0 = 2 from rfl] at *
    have hi : (i : Int) ≤ 1000000 := by omega
    have hj' : (i : Int) * 2 = (j : Int) := by omega
    have hlt' : (j : Int) + 2 ≤ (fs.length : Int) := by omega
    clear hj hc'
    go_enter Try.func91, Try.ntmps91
    go_wp2_with (go_at_call 133; refine (h1.out _).mono ?_; rintro e w' ⟨rfl, hq⟩; obtain ⟨q, rfl⟩ := gr_of_below hq; clear hq)
    go_region
    go_wp2
    exact bodyPost_ret (v := .agg #[.float .f64 x, .float .f64 y, .float .f64 0, .float .f64 0, .int .u8 0]) (by simp [results, Try.results91, go_sem]) rfl ⟨rfl, (by repeat (first | exact Below.refl _ _ | (refine below_gr' ?_ (by first | omega | (simp [go_sem] <;> omega))) | (refine Below.alloc ?_ (by first | omega | (simp [go_sem] <;> omega)) _) | refine Below.drew ?_ | (refine Below.setCell ?_ (by first | omega | (simp [go_sem] <;> omega)) _)))⟩
  · skip
    have c2 := hc'.out (j + 2) (by have : dimN 1 = 3 := rfl; omega)
    rw [Nat.zero_add] at c2
    rw [show fz 1 fs j = fs[j + 2]?.getD 0 from rfl, show fm 1 fs j = 0 from rfl]
    generalize fs[j + 2]?.getD 0 = z at *
    rw [show dimN 1 = 3 from rfl] at *
    have hi : (i : Int) ≤ 1000000 := by omega
    have hj' : (i : Int) * 3 = (j : Int) := by omega
    have hlt' : (j : Int) + 3 ≤ (fs.length : Int) := by omega
    clear hj hc'
    go_enter Try.func91, Try.ntmps91
    go_wp2_with (go_at_call 133; refine (h1.out _).mono ?_; rintro e w' ⟨rfl, hq⟩; obtain ⟨q, rfl⟩ := gr_of_below hq; clear hq)
    go_region
    go_wp2
    exact bodyPost_ret (v := .agg #[.float .f64 x, .float .f64 y, .float .f64 z, .float .f64 0, .int .u8 1]) (by simp [results, Try.results91, go_sem]) rfl ⟨rfl, (by repeat (first | exact Below.refl _ _ | (refine below_gr' ?_ (by first | omega | (simp [go_sem] <;> omega))) | (refine Below.alloc ?_ (by first | omega | (simp [go_sem] <;> omega)) _) | refine Below.drew ?_ | (refine Below.setCell ?_ (by first | omega | (simp [go_sem] <;> omega)) _)))⟩
  · skip
    have c2 := hc'.out (j + 2) (by have : dimN 2 = 3 := rfl; omega)
    rw [Nat.zero_add] at c2
    rw [show fz 2 fs j = 0 from rfl, show fm 2 fs j = fs[j + 2]?.getD 0 from rfl]
    generalize fs[j + 2]?.getD 0 = z at *
    rw [show dimN 2 = 3 from rfl] at *
    have hi : (i : Int) ≤ 1000000 := by omega
    have hj' : (i : Int) * 3 = (j : Int) := by omega
    have hlt' : (j : Int) + 3 ≤ (fs.length : Int) := by omega
    clear hj hc'
    go_enter Try.func91, Try.ntmps91
    go_wp2_with (go_at_call 133; refine (h1.out _).mono ?_; rintro e w' ⟨rfl, hq⟩; obtain ⟨q, rfl⟩ := gr_of_below hq; clear hq)
    go_region
    go_wp2
    exact bodyPost_ret (v := .agg #[.float .f64 x, .float .f64 y, .float .f64 0, .float .f64 z, .int .u8 2]) (by simp [results, Try.results91, go_sem]) rfl ⟨rfl, (by repeat (first | exact Below.refl _ _ | (refine below_gr' ?_ (by first | omega | (simp [go_sem] <;> omega))) | (refine Below.alloc ?_ (by first | omega | (simp [go_sem] <;> omega)) _) | refine Below.drew ?_ | (refine Below.setCell ?_ (by first | omega | (simp [go_sem] <;> omega)) _)))⟩
  · skip
    have c2 := hc'.out (j + 2) (by have : dimN 3 = 4 := rfl; omega)
    have c3 := hc'.out (j + 3) (by have : dimN 3 = 4 := rfl; omega)
    rw [Nat.zero_add] at c2 c3
    rw [show fz 3 fs j = fs[j + 2]?.getD 0 from rfl, show fm 3 fs j = fs[j + 3]?.getD 0 from rfl]
    generalize fs[j + 2]?.getD 0 = z at *
    generalize fs[j + 3]?.getD 0 = mm at *
    rw [show dimN 3 = 4 from rfl] at *
    have hi : (i : Int) ≤ 1000000 := by omega
    have hj' : (i : Int) * 4 = (j : Int) := by omega
    have hlt' : (j : Int) + 4 ≤ (fs.length : Int) := by omega
    clear hj hc'
    go_enter Try.func91, Try.ntmps91
    go_wp2_with (go_at_call 133; refine (h1.out _).mono ?_; rintro e w' ⟨rfl, hq⟩; obtain ⟨q, rfl⟩ := gr_of_below hq; clear hq)
    go_region
    go_wp2
    exact bodyPost_ret (v := .agg #[.float .f64 x, .float .f64 y, .float .f64 z, .float .f64 mm, .int .u8 3]) (by simp [results, Try.results91, go_sem]) rfl ⟨rfl, (by repeat (first | exact Below.refl _ _ | (refine below_gr' ?_ (by first | omega | (simp [go_sem] <;> omega))) | (refine Below.alloc ?_ (by first | omega | (simp [go_sem] <;> omega)) _) | refine Below.drew ?_ | (refine Below.setCell ?_ (by first | omega | (simp [go_sem] <;> omega)) _)))⟩
end Go.Proofs.Ytpphfoggjejpiaa
