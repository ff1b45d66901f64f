/-
  The law's reading of a line string; its tests of coordinates. Conditions: as each theorem states them.
-/
import Derived.Test.YtpphfoggjejpiaaMg
namespace Go.Proofs.Ytpphfoggjejpiaa
open Go.RowKit Fl Go.Sort

theorem small_nums {kind dim : Int} {nums : List Nat} {kids : List G} (h : small (.mk kind dim nums kids) = true) : nums.length ≤ 2000 := by
  unfold small wt at h
  have h := of_decide_eq_true h
  split at h
  · omega
  · omega

theorem zzFits_any (kind dim : Int) (ao : Option Addr) (n nc : Nat) (ko : Option Addr) (k kc : Nat) (w : World) :
    Calls Try.prog 40 #[.agg #[.int .i64 kind, .int .i64 dim, .slice ao n nc, .slice ko k kc]] w fun e w' => e = .returned (.bool (!decide ((2147483647 : Int) < (n : Int)) && !decide ((2147483647 : Int) < (k : Int)))) ∧ Below w.heap.size w w' := by
  cases h1 : decide ((2147483647 : Int) < (n : Int)) with
  | true =>
    go_enter Try.func40, Try.ntmps40
    go_wp2
    go_ret
    exact ⟨rfl, (by repeat (first | exact Below.refl _ _ | (refine below_gr' ?_ (by first | omega | (simp [go_sem] <;> omega))) | (refine Below.alloc ?_ (by first | omega | (simp [go_sem] <;> omega)) _) | refine Below.drew ?_ | (refine Below.setCell ?_ (by first | omega | (simp [go_sem] <;> omega)) _)))⟩
  | false =>
    cases h2 : decide ((2147483647 : Int) < (k : Int)) with
    | true =>
      go_enter Try.func40, Try.ntmps40
      go_wp2
      go_ret
      exact ⟨rfl, (by repeat (first | exact Below.refl _ _ | (refine below_gr' ?_ (by first | omega | (simp [go_sem] <;> omega))) | (refine Below.alloc ?_ (by first | omega | (simp [go_sem] <;> omega)) _) | refine Below.drew ?_ | (refine Below.setCell ?_ (by first | omega | (simp [go_sem] <;> omega)) _)))⟩
    | false =>
      go_enter Try.func40, Try.ntmps40
      go_wp2
      go_ret
      exact ⟨rfl, (by repeat (first | exact Below.refl _ _ | (refine below_gr' ?_ (by first | omega | (simp [go_sem] <;> omega))) | (refine Below.alloc ?_ (by first | omega | (simp [go_sem] <;> omega)) _) | refine Below.drew ?_ | (refine Below.setCell ?_ (by first | omega | (simp [go_sem] <;> omega)) _)))⟩

/-- The places behind a slice. -/
def QsSl (w : World) (v : Value) (qs : List Q4) : Prop :=
  (qs = [] ∧ ∃ ao c, v = .slice ao 0 c) ∨ ∃ g cap, v = .slice (some ⟨g, 0, none⟩) qs.length cap ∧ g < w.heap.size ∧ ∀ i q, qs[i]? = some q → w.cell? ⟨g, i * 4, none⟩ = some (.float .f64 q.x) ∧ w.cell? ⟨g, i * 4 + 1, none⟩ = some (.float .f64 q.y) ∧ w.cell? ⟨g, i * 4 + 2, none⟩ = some (.float .f64 q.z) ∧ w.cell? ⟨g, i * 4 + 3, none⟩ = some (.float .f64 q.m)

theorem flatQ_at : ∀ (qs : List Q4) (i : Nat) (q : Q4), qs[i]? = some q → (flatQ qs)[i * 4]? = some (.float .f64 q.x) ∧ (flatQ qs)[i * 4 + 1]? = some (.float .f64 q.y) ∧ (flatQ qs)[i * 4 + 2]? = some (.float .f64 q.z) ∧ (flatQ qs)[i * 4 + 3]? = some (.float .f64 q.m)
  | [], i, q, h => by simp at h
  | q' :: qs, 0, q, h => by
    simp only [List.getElem?_cons_zero, Option.some.injEq] at h
    subst h
    exact ⟨rfl, rfl, rfl, rfl⟩
  | q' :: qs, i + 1, q, h => by
    rw [List.getElem?_cons_succ] at h
    have := flatQ_at qs i q h
    rw [show (i + 1) * 4 = i * 4 + 4 by omega]
    exact this

theorem OwnQ.sl {w : World} {base : Nat} {v : Value} {qs : List Q4} (h : OwnQ w base v qs) : QsSl w v qs := by
  rcases Nat.eq_zero_or_pos qs.length with h0 | h0
  · left
    refine ⟨List.eq_nil_of_length_eq_zero h0, ?_⟩
    rcases h.2 with ⟨rfl, _⟩ | ⟨g, cap, cur, rfl, _⟩
    · exact ⟨_, _, rfl⟩
    · exact ⟨_, _, by rw [h0]⟩
  · right
    obtain ⟨g, cap, rfl, _, hlt⟩ := World.ownsRow.form h h0
    refine ⟨g, cap, rfl, hlt, fun i q hq => ?_⟩
    have hc := World.ownsRow.cells h rfl
    have hf := flatQ_at qs i q hq
    have c0 := hc _ _ hf.1
    have c1 := hc _ _ hf.2.1
    have c2 := hc _ _ hf.2.2.1
    have c3 := hc _ _ hf.2.2.2
    rw [addr_add] at c0 c1 c2 c3
    exact ⟨c0, c1, c2, c3⟩

theorem QsSl.below {w w' : World} {v : Value} {qs : List Q4} (h : QsSl w v qs) (hb : Below w.heap.size w w') : QsSl w' v qs := by
  rcases h with h | ⟨g, cap, h1, h2, h3⟩
  · exact .inl h
  · refine .inr ⟨g, cap, h1, Nat.lt_of_lt_of_le h2 hb.size, fun i q hq => ?_⟩
    obtain ⟨c0, c1, c2, c3⟩ := h3 i q hq
    refine ⟨?_, ?_, ?_, ?_⟩
    · rw [hb.cell (p := ⟨g, i * 4, none⟩) h2]; exact c0
    · rw [hb.cell (p := ⟨g, i * 4 + 1, none⟩) h2]; exact c1
    · rw [hb.cell (p := ⟨g, i * 4 + 2, none⟩) h2]; exact c2
    · rw [hb.cell (p := ⟨g, i * 4 + 3, none⟩) h2]; exact c3

def noPlaces : Value := .tuple #[.slice none 0 0, .bool false]

set_option maxHeartbeats 1000000 in
theorem gLine_no {g : G} {kind dim : Int} {ao : Option Addr} {n nc : Nat} {ko : Option Addr} {k kc : Nat} (w : World) (h : GC w (gCells kind dim ao n nc ko k kc) g) (hk : (small g && decide (kind = 2)) = false) :
    Calls Try.prog 41 #[.agg (gCells kind dim ao n nc ko k kc).toArray] w fun e w' => e = .returned noPlaces ∧ Below w.heap.size w w' := by
  have hs := Lib.hid (fun b off cap w' (hb : Below w.heap.size w w') hlt e0 e1 e2 e3 => gSmall_any b off cap w' (h.keep hb) hlt e0 e1 e2 e3)
  generalize small g = S at *
  clear h
  unfold gCells noPlaces
  cases S with
  | false =>
    go_enter Try.func41, Try.ntmps41
    go_wp2_with (go_at_call 86; refine (hs.out _ _ _ _ (by repeat (first | exact Below.refl _ _ | (refine below_gr' ?_ (by first | omega | (simp [go_sem] <;> omega))) | (refine Below.alloc ?_ (by first | omega | (simp [go_sem] <;> omega)) _) | refine Below.drew ?_ | (refine Below.setCell ?_ (by first | omega | (simp [go_sem] <;> omega)) _))) (by simp) (by go_simp) (by go_simp) (by go_simp) (by go_simp)).mono ?_; rintro e w' ⟨rfl, hq⟩; obtain ⟨q, rfl⟩ := gr_of_below hq; clear hq)
    refine bodyPost_ret ?_ rfl ⟨rfl, ?_⟩
    · simp [results, Try.results41, go_sem]
    · exact (by repeat (first | exact Below.refl _ _ | (refine below_gr' ?_ (by first | omega | (simp [go_sem] <;> omega))) | (refine Below.alloc ?_ (by first | omega | (simp [go_sem] <;> omega)) _) | refine Below.drew ?_ | (refine Below.setCell ?_ (by first | omega | (simp [go_sem] <;> omega)) _)))
  | true =>
    have hk2 : (kind != 2) = true := by simpa using hk
    clear hk
    go_enter Try.func41, Try.ntmps41
    go_wp2_with (go_at_call 86; refine (hs.out _ _ _ _ (by repeat (first | exact Below.refl _ _ | (refine below_gr' ?_ (by first | omega | (simp [go_sem] <;> omega))) | (refine Below.alloc ?_ (by first | omega | (simp [go_sem] <;> omega)) _) | refine Below.drew ?_ | (refine Below.setCell ?_ (by first | omega | (simp [go_sem] <;> omega)) _))) (by simp) (by go_simp) (by go_simp) (by go_simp) (by go_simp)).mono ?_; rintro e w' ⟨rfl, hq⟩; obtain ⟨q, rfl⟩ := gr_of_below hq; clear hq)
    refine bodyPost_ret ?_ rfl ⟨rfl, ?_⟩
    · simp [results, Try.results41, go_sem]
    · exact (by repeat (first | exact Below.refl _ _ | (refine below_gr' ?_ (by first | omega | (simp [go_sem] <;> omega))) | (refine Below.alloc ?_ (by first | omega | (simp [go_sem] <;> omega)) _) | refine Below.drew ?_ | (refine Below.setCell ?_ (by first | omega | (simp [go_sem] <;> omega)) _)))
end Go.Proofs.Ytpphfoggjejpiaa
