/-
  A list of places in memory; the test that all of its numbers are finite. Conditions: the list's length below 2^40.
-/
import Derived.Test.YtpphfoggjejpiaaFb
namespace Go.Proofs.Ytpphfoggjejpiaa
open Go.RowKit Fl Go.Sort

/-- The cells from an address on are the places of the list, two cells each. -/
def PtsAt (w : World) (b off : Nat) (ps : List (Nat × Nat)) : Prop :=
  ∀ i, i < ps.length → w.cell? ⟨b, off + i * 2, none⟩ = some (.float .f64 (ps[i]?.getD (0, 0)).1) ∧ w.cell? ⟨b, off + i * 2 + 1, none⟩ = some (.float .f64 (ps[i]?.getD (0, 0)).2)

def finP (p : Nat × Nat) : Bool := fin p.1 && fin p.2
def finL (ps : List (Nat × Nat)) : Bool := ps.all finP

theorem finL_take (ps : List (Nat × Nat)) (k : Nat) (hlt : k < ps.length) : finL (ps.take (k + 1)) = (finL (ps.take k) && (fin ps[k].1 && fin ps[k].2)) := by
  rw [List.take_succ_eq_append_getElem hlt]
  simp only [finL, List.all_append, List.all_cons, List.all_nil, finP, Bool.and_true]

theorem fl_no {a x y : Bool} (_h : x = true) (h2 : (!y) = true) : (a && (x && y)) = false := by cases y <;> simp_all
theorem fl_nox {a x y : Bool} (h : ¬ x = true) : (a && (x && y)) = false := by cases x <;> simp_all
theorem fl_yes {a x y : Bool} (h0 : a = true) (h : x = true) (h2 : (!y) = false) : (a && (x && y)) = true := by cases y <;> simp_all

theorem finL_false {ps : List (Nat × Nat)} {k : Nat} (h : finL (ps.take k) = false) : finL ps = false := by
  have : finL ps = (finL (ps.take k) && finL (ps.drop k)) := by
    unfold finL; rw [← List.all_append, List.take_append_drop]
  rw [this, h]; rfl

theorem eList_any (b off cap : Nat) (ps : List (Nat × Nat)) (w : World) (hb : b < w.heap.size) (hlen : ps.length < 2 ^ 40) (hw : ∀ p ∈ ps, p.1 < 2 ^ 64 ∧ p.2 < 2 ^ 64) (hc : PtsAt w b off ps) :
    Calls Try.prog 15 #[.slice (some ⟨b, off, none⟩) ps.length cap] w fun e w' => e = .returned (.bool (decide (ps.length ≤ 2000) && finL ps)) ∧ Below w.heap.size w w' := by
  have hc' := Lib.hid hc
  have hw' := Lib.hid hw
  clear hc hw
  by_cases hbig : ps.length ≤ 2000
  rotate_left
  · have hbig' : (2000 : Int) < (ps.length : Int) := by omega
    have hd : decide (ps.length ≤ 2000) = false := decide_eq_false hbig
    rw [hd]
    go_enter Try.func15, Try.ntmps15
    go_wp2
    go_ret
    exact ⟨rfl, Below.refl _ _⟩
  · have hd : decide (ps.length ≤ 2000) = true := decide_eq_true hbig
    rw [hd]
    go_enter Try.func15, Try.ntmps15
    go_wp2
    go_loopw [10] (fun i wr => ∃ k : Nat, k ≤ ps.length ∧ i = .int .i64 k ∧ finL (ps.take k) = true ∧ Below w.heap.size w wr) (fun i _ => ps.length - (intOf i).toNat)
    case atStart => exact ⟨0, Nat.zero_le _, rfl, rfl, Below.refl _ _⟩
    case round =>
      obtain ⟨k, hk, rfl, hfin, hbl⟩ := hrel
      by_cases hlt : k < ps.length
      · have hk1 := (hc'.out k hlt).1
        have hk2 := (hc'.out k hlt).2
        rw [← hbl.cell (p := ⟨b, off + k * 2, none⟩) hb] at hk1
        rw [← hbl.cell (p := ⟨b, off + k * 2 + 1, none⟩) hb] at hk2
        have hws := hw'.out ps[k] (List.getElem_mem hlt)
        have hg : ps[k]?.getD (0, 0) = ps[k] := by simp [hlt]
        rw [hg] at hk1 hk2
        obtain ⟨x, hx⟩ : ∃ x, x = ps[k].1 := ⟨_, rfl⟩
        obtain ⟨y, hy⟩ : ∃ y, y = ps[k].2 := ⟨_, rfl⟩
        rw [← hx] at hk1 hws
        rw [← hy] at hk2 hws
        have hf := Lib.hid (show finL (ps.take (k + 1)) = (finL (ps.take k) && (fin x && fin y)) by rw [finL_take ps k hlt, hx, hy])
        have hff := Lib.hid hfin
        have hws' := Lib.hid hws
        have hbl' := Lib.hid hbl
        clear hx hy hg hfin hws hbl
        go_wp2_with (go_at_call 25; refine (gFinite_any _ (by first | exact hws'.out.1 | exact hws'.out.2) _).mono ?_; rintro e w' ⟨rfl, rfl⟩)
        · go_ret
          have hz : finL (ps.take (k + 1)) = false := by rw [hf.out]; exact fl_no ‹_› ‹_›
          exact ⟨by rw [finL_false hz]; rfl, (hbl'.out).alloc hbl'.out.size _⟩
        · go_roundw
          case rel => exact ⟨k + 1, by omega, by go_num, by rw [hf.out]; exact fl_yes hff.out ‹_› ‹_›, (hbl'.out).alloc hbl'.out.size _⟩
          case measure => simp [intOf]; omega
        · go_ret
          have hz : finL (ps.take (k + 1)) = false := by rw [hf.out]; exact fl_nox ‹_›
          exact ⟨by rw [finL_false hz]; rfl, (hbl'.out).alloc hbl'.out.size _⟩
      · go_wp2
        go_ret
        have : k = ps.length := by omega
        subst this
        rw [List.take_length] at hfin
        exact ⟨by rw [hfin]; rfl, hbl⟩
theorem pts_two {w : World} {b off x0 y0 x1 y1 : Nat} (h0 : w.cell? ⟨b, off, none⟩ = some (.float .f64 x0)) (h1 : w.cell? ⟨b, off + 1, none⟩ = some (.float .f64 y0))
    (h2 : w.cell? ⟨b, off + 2, none⟩ = some (.float .f64 x1)) (h3 : w.cell? ⟨b, off + 3, none⟩ = some (.float .f64 y1)) : PtsAt w b off [(x0, y0), (x1, y1)] := by
  intro i hi
  have : i = 0 ∨ i = 1 := by simp at hi; omega
  rcases this with rfl | rfl
  · exact ⟨h0, h1⟩
  · exact ⟨h2, h3⟩

theorem wf_two {a b c d : Nat} (h : (a < 2 ^ 64 ∧ b < 2 ^ 64) ∧ c < 2 ^ 64 ∧ d < 2 ^ 64) : ∀ p ∈ [(a, b), (c, d)], p.1 < 2 ^ 64 ∧ p.2 < 2 ^ 64 := by
  intro p hp
  simp only [List.mem_cons, List.not_mem_nil, or_false] at hp
  rcases hp with rfl | rfl
  · exact h.1
  · exact h.2

end Go.Proofs.Ytpphfoggjejpiaa
