/-
  The walks over the laws' helpers: xy, formed, dPlaces; the reference's At. Conditions: as each theorem states them.
-/
import Derived.Test.YtpphfoggjejpiaaGe
namespace Go.Proofs.Ytpphfoggjejpiaa
open Go.RowKit Fl Go.Sort

theorem at_any (x y : Int) (w : World) :
    Calls Try.prog 82 #[ptV x y] w fun e w' => e = .returned (.agg #[.int .i64 x, .int .i64 y, .int .i64 1]) ∧ Below w.heap.size w w' := by
  unfold ptV
  go_enter Try.func82, Try.ntmps82
  go_wp2
  exact bodyPost_ret (v := .agg #[.int .i64 x, .int .i64 y, .int .i64 1]) (by simp [results, Try.results82, go_sem]) rfl ⟨rfl, (by repeat (first | exact Below.refl _ _ | (refine below_gr' ?_ (by first | omega | (simp [go_sem] <;> omega))) | (refine Below.alloc ?_ (by first | omega | (simp [go_sem] <;> omega)) _) | refine Below.drew ?_ | (refine Below.setCell ?_ (by first | omega | (simp [go_sem] <;> omega)) _)))⟩

/-- The float of a whole number. -/
def flI (n : Int) : Nat := floatOfInt .f64 n

theorem lxy_any (x y : Int) (w : World) :
    Calls Try.prog 33 #[ptV x y] w fun e w' => e = .returned (.agg #[.float .f64 (flI x), .float .f64 (flI y)]) ∧ Below w.heap.size w w' := by
  unfold ptV
  go_enter Try.func33, Try.ntmps33
  go_wp2
  exact bodyPost_ret (v := .agg #[.float .f64 (flI x), .float .f64 (flI y)]) (by simp [results, Try.results33, go_sem, flI]) rfl ⟨rfl, (by repeat (first | exact Below.refl _ _ | (refine below_gr' ?_ (by first | omega | (simp [go_sem] <;> omega))) | (refine Below.alloc ?_ (by first | omega | (simp [go_sem] <;> omega)) _) | refine Below.drew ?_ | (refine Below.setCell ?_ (by first | omega | (simp [go_sem] <;> omega)) _)))⟩

theorem formed_any (b off cap : Nat) (ps : List (Int × Int)) (m : Int) (hm : 0 ≤ m ∧ m ≤ 4611686018427387904) (w : World) (hb : b < w.heap.size) (hn : ps.length ≤ 1000000) (hc : SptsAt w b off ps) :
    Calls Try.prog 58 #[.agg #[.int .i64 2, .slice (some ⟨b, off, none⟩) ps.length cap, .slice none 0 0], .int .i64 m] w fun en w' => en = .returned (.bool (formB m ps)) ∧ Below w.heap.size w w' := by
  have hs := Lib.hid (fun (w' : World) hb' hc' => formedBelow_any b off cap ps m hm w' hb' hn hc')
  have hc' := Lib.hid hc
  clear hc hn
  go_enter Try.func58, Try.ntmps58
  go_wp2_with (go_at_call 108; refine (hs.out _ (by simp; omega) ?_).mono ?_)
  case _ => 
    intro i hi
    have h := hc'.out i hi
    constructor
    · go_simp
    · go_simp
  rintro e w' ⟨rfl, hq⟩
  obtain ⟨q, rfl⟩ := gr_of_below hq
  clear hq
  go_wp2
  go_ret
  exact ⟨rfl, (by repeat (first | exact Below.refl _ _ | (refine below_gr' ?_ (by first | omega | (simp [go_sem] <;> omega))) | (refine Below.alloc ?_ (by first | omega | (simp [go_sem] <;> omega)) _) | refine Below.drew ?_ | (refine Below.setCell ?_ (by first | omega | (simp [go_sem] <;> omega)) _)))⟩
end Go.Proofs.Ytpphfoggjejpiaa
