/-
  The walks over the laws' test of whole places: formed, dPlaces. Conditions: as each theorem states them.
-/
import Derived.Test.YtpphfoggjejpiaaGd
namespace Go.Proofs.Ytpphfoggjejpiaa
open Go.RowKit Fl Go.Sort

/-- The cells of places of the reference. -/
def SptsAt (w : World) (b off : Nat) (ps : List (Int × Int)) : Prop :=
  ∀ i, i < ps.length → w.cell? ⟨b, off + i * 2, none⟩ = some (.int .i64 (ps[i]?.getD (0, 0)).1) ∧ w.cell? ⟨b, off + i * 2 + 1, none⟩ = some (.int .i64 (ps[i]?.getD (0, 0)).2)

def inM (m : Int) (p : Int × Int) : Bool := decide (-m ≤ p.1) && decide (-m ≤ p.2) && decide (p.1 ≤ m) && decide (p.2 ≤ m)
def formB (m : Int) (ps : List (Int × Int)) : Bool := ps.all (inM m)

theorem formB_take (m : Int) (ps : List (Int × Int)) (k : Nat) (h : k < ps.length) : formB m (ps.take (k + 1)) = (formB m (ps.take k) && inM m (ps[k]?.getD (0, 0))) := by
  unfold formB
  rw [List.take_add_one, List.getElem?_eq_getElem h, Option.toList_some, List.all_append]
  simp

theorem formB_false (m : Int) (ps : List (Int × Int)) (k : Nat) (h : formB m (ps.take k) = false) : formB m ps = false := by
  unfold formB at *
  rw [List.all_eq_false] at h ⊢
  obtain ⟨x, h1, h2⟩ := h
  exact ⟨x, List.mem_of_mem_take h1, h2⟩

theorem formedBelow_any (b off cap : Nat) (ps : List (Int × Int)) (m : Int) (hm : 0 ≤ m ∧ m ≤ 4611686018427387904) (w : World) (hb : b < w.heap.size) (hn : ps.length ≤ 1000000) (hc : SptsAt w b off ps) :
    Calls Try.prog 108 #[.agg #[.int .i64 2, .slice (some ⟨b, off, none⟩) ps.length cap, .slice none 0 0], .int .i64 m, .int .i64 100] w fun en w' => en = .returned (.bool (formB m ps)) ∧ Below w.heap.size w w' := by
  have hc' := Lib.hid hc
  have hn' : (ps.length : Int) ≤ 1000000 := by omega
  clear hc hn
  go_enter Try.func108, Try.ntmps108
  go_wp2
  go_loopw [17] (fun i wr => ∃ k : Nat, k ≤ ps.length ∧ i = .int .i64 k ∧ Below w.heap.size w wr ∧ formB m (ps.take k) = true ∧ wr.cell? ⟨w.heap.size, 0, none⟩ = some (.int .i64 2) ∧ wr.cell? ⟨w.heap.size, 2, none⟩ = some (.slice none 0 0) ∧ w.heap.size < wr.heap.size) (fun i _ => ps.length - (intOf i).toNat)
  case atStart => exact ⟨0, Nat.zero_le _, rfl, (by repeat (first | exact Below.refl _ _ | (refine below_gr' ?_ (by first | omega | (simp [go_sem] <;> omega))) | (refine Below.alloc ?_ (by first | omega | (simp [go_sem] <;> omega)) _) | refine Below.drew ?_ | (refine Below.setCell ?_ (by first | omega | (simp [go_sem] <;> omega)) _))), rfl, by go_simp, by go_simp, by simp⟩
  case round =>
    obtain ⟨k, hk, rfl, hbl, hf, hk0, hk2, hsz⟩ := hrel
    by_cases hlt : k < ps.length
    · have hk3 := (hc'.out k hlt).1
      have hk4 := (hc'.out k hlt).2
      rw [← hbl.cell (p := ⟨b, off + k * 2, none⟩) hb] at hk3
      rw [← hbl.cell (p := ⟨b, off + k * 2 + 1, none⟩) hb] at hk4
      have hft := Lib.hid (formB_take m ps k hlt)
      have hff := Lib.hid (formB_false m ps (k + 1))
      obtain ⟨x, hx⟩ : ∃ x, x = (ps[k]?.getD (0, 0)).1 := ⟨_, rfl⟩
      obtain ⟨y, hy⟩ : ∃ y, y = (ps[k]?.getD (0, 0)).2 := ⟨_, rfl⟩
      rw [show ps[k]?.getD (0, 0) = (x, y) by rw [hx, hy]] at hft
      rw [← hx] at hk3
      rw [← hy] at hk4
      have hf' := Lib.hid hf
      have hbl' := Lib.hid hbl
      clear hx hy hf hbl
      by_cases hin : -m ≤ x ∧ -m ≤ y ∧ x ≤ m ∧ y ≤ m
      · have hft1 := hft.out
        rw [hf'.out, show inM m (x, y) = true by unfold inM; simp; omega, Bool.and_self] at hft1
        have hft2 := Lib.hid hft1
        obtain ⟨i1, i2, i3, i4⟩ := hin
        clear hft hff hft1
        go_wp2
        all_goals go_roundw
        all_goals first
          | exact ⟨k + 1, by omega, by go_num, (hbl'.out).alloc hbl'.out.size _, hft2.out, by go_simp, by go_simp, by simp; omega⟩
          | (simp [intOf]; omega)
      · have hft1 := hft.out
        rw [show inM m (x, y) = false by unfold inM; simp; omega, Bool.and_false] at hft1
        have hft2 := Lib.hid (hff.out hft1)
        clear hft hff hft1
        go_wp2
        all_goals first
          | (go_ret; exact ⟨by rw [hft2.out]; rfl, (hbl'.out).alloc hbl'.out.size _⟩)
          | (exfalso; omega)
    · have : k = ps.length := by omega
      subst this
      rw [List.take_length] at hf
      have hf' := Lib.hid hf
      clear hf
      go_wp2
      go_ret
      exact ⟨by rw [hf'.out]; rfl, hbl⟩
end Go.Proofs.Ytpphfoggjejpiaa
