/-
  The walks over sequences, continued: the test of all their places, two places that differ. Conditions: as each theorem states them.
-/
import Derived.Test.YtpphfoggjejpiaaKb
import Derived.Deep.LoopGhost
namespace Go.Proofs.Ytpphfoggjejpiaa
open Go.RowKit Fl Go.Sort

/-- The numbers of place i. -/
def fx (m : Nat) (fs : List Nat) (i : Nat) : Nat := fs[i * m]?.getD 0
def fy (m : Nat) (fs : List Nat) (i : Nat) : Nat := fs[i * m + 1]?.getD 0
def okP (m : Nat) (fs : List Nat) (i : Nat) : Bool := fin (fx m fs i) && fin (fy m fs i)
/-- All of the first n places are finite. -/
def okF (m : Nat) (fs : List Nat) : Nat → Bool
  | 0 => true
  | n + 1 => okF m fs n && okP m fs n

theorem okF_false {m : Nat} {fs : List Nat} {k : Nat} (h : okP m fs k = false) : ∀ n, k < n → okF m fs n = false := by
  intro n hn
  induction n with
  | zero => omega
  | succ n ih =>
    unfold okF
    by_cases hk : k = n
    · subst hk; rw [h, Bool.and_false]
    · rw [ih (by omega), Bool.false_and]

theorem getD_lt {fs : List Nat} (h : ∀ x ∈ fs, x < 2 ^ 64) (i : Nat) : fs[i]?.getD 0 < 2 ^ 64 := by
  by_cases hi : i < fs.length
  · rw [List.getElem?_eq_getElem hi]; exact h _ (List.getElem_mem hi)
  · rw [List.getElem?_eq_none (by omega)]; decide

theorem place_lt {m n len i : Nat} (hn : n * m = len) (hm : 2 ≤ m) (hi : i < n) : i * m + 1 < len := by
  have h1 : (i + 1) * m ≤ n * m := Nat.mul_le_mul_right m (by omega)
  rw [Nat.add_mul] at h1
  omega

/-- nil where all is well, else an error. -/
def ErrIf (ok : Bool) (v : Value) : Prop := if ok then v = .nilIface else IsErr v

set_option maxHeartbeats 1000000 in
theorem seqValidate_any {d : Int} (hd : D4 d) (b cap n : Nat) (fs : List Nat) (hn : n * dimN d = fs.length) (hl : (fs.length : Int) ≤ 1000000) (hw : ∀ x ∈ fs, x < 2 ^ 64) (w : World) (hb : b < w.heap.size) (hc : FsAt w b 0 fs) :
    Calls Try.prog 139 #[seqV d b fs.length cap] w fun e w' => (∃ v, e = .returned v ∧ ErrIf (okF (dimN d) fs n) v) ∧ Below w.heap.size w w' := by
  have hm := dimN_cases d
  have hm2 : 2 ≤ dimN d := by rcases hm with h | h | h <;> omega
  have hnl : fs.length / dimN d = n := by rw [← hn]; exact Nat.mul_div_cancel _ (by omega)
  have hL := Lib.hid (fun w => length_any hd b fs.length cap hl w)
  rw [hnl] at hL
  have hG := Lib.hid (fun i x y w hlt hb h0 h1 => getXY_any hd b fs.length cap i (i * dimN d) x y rfl hlt hl w hb h0 h1)
  have hpl := Lib.hid (fun i hi => place_lt (i := i) hn hm2 hi)
  have hc' := Lib.hid hc
  have hw' := Lib.hid hw
  have hn' : (n : Int) ≤ 1000000 := by
    have : n * 2 ≤ n * dimN d := Nat.mul_le_mul_left n hm2
    omega
  generalize dimN d = m at *
  clear hc hw hm hm2 hnl hn hl
  unfold seqV at *
  go_enter Try.func139, Try.ntmps139
  go_wp2_with (go_at_call 135; refine (hL.out _).mono ?_; rintro e w' ⟨rfl, hq⟩; obtain ⟨q, rfl⟩ := gr_of_below hq; clear hq)
  go_loopw [4, 5] (fun i _ wr => ∃ k : Nat, k ≤ n ∧ i = .int .i64 k ∧ okF m fs k = true ∧ Below w.heap.size w wr ∧ Blk wr w.heap.size #[.int .u8 d, .slice (some ⟨b, 0, none⟩) fs.length cap]) (fun i _ _ => n - (intOf i).toNat)
  case atStart => exact ⟨0, Nat.zero_le _, rfl, rfl, (by repeat (first | exact Below.refl _ _ | (refine below_gr' ?_ (by first | omega | (simp [go_sem] <;> omega))) | (refine Below.alloc ?_ (by first | omega | (simp [go_sem] <;> omega)) _) | refine Below.drew ?_ | (refine Below.setCell ?_ (by first | omega | (simp [go_sem] <;> omega)) _))), (Blk.new _ _ _).gr _⟩
  case round =>
    obtain ⟨k, hk, rfl, hok, hbl, hB⟩ := hrel
    have hbl' := Lib.hid hbl
    have hB' := Lib.hid hB
    have hcB := hB.cell
    have hltB := hB.lt
    have hok' := Lib.hid hok
    clear hok hB
    by_cases hlt : k < n
    · have hpk := Lib.hid (hpl.out k hlt)
      have g0 : Hid (wr.cell? ⟨b, k * m, none⟩ = some (.float .f64 (fx m fs k))) := Lib.hid (by have h := (hc'.out.below hbl hb) (k * m) (by have := hpk.out; omega); rw [Nat.zero_add] at h; exact h)
      have g1 : Hid (wr.cell? ⟨b, k * m + 1, none⟩ = some (.float .f64 (fy m fs k))) := Lib.hid (by have h := (hc'.out.below hbl hb) (k * m + 1) hpk.out; rw [Nat.zero_add] at h; exact h)
      have hx : Hid (fx m fs k < 2 ^ 64) := Lib.hid (getD_lt hw'.out _)
      have hy : Hid (fy m fs k < 2 ^ 64) := Lib.hid (getD_lt hw'.out _)
      have hokn : okF m fs (k + 1) = (okF m fs k && okP m fs k) := rfl
      have hbw : Hid (b < wr.heap.size) := Lib.hid (by have := hbl.size; omega)
      have hG2 := Lib.hid (hG.out k (fx m fs k) (fy m fs k))
      unfold okP at hokn
      have hbad := Lib.hid (fun (h : (fin (fx m fs k) && fin (fy m fs k)) = false) => okF_false (m := m) (fs := fs) (k := k) h n hlt)
      generalize fx m fs k = x at *
      generalize fy m fs k = y at *
      clear hbl
      cases hfin : (fin x && fin y) with
      | true =>
        have hok2 : Hid (okF m fs (k + 1) = true) := Lib.hid (by rw [hokn, hok'.out, hfin]; rfl)
        have hf : fin x = true ∧ fin y = true := by simpa using hfin
        have hv := Lib.hid (fun w => validXY_any hx.out hy.out hf.1 hf.2 w)
        clear hokn hfin hf hbad
        go_wp2_with (first | (go_at_call 142; refine (hG2.out _ hpk.out hbw.out g0.out g1.out).mono ?_; rintro e w' ⟨rfl, hq⟩; obtain ⟨q, rfl⟩ := gr_of_below hq; clear hq) | (go_at_call 175; refine (hv.out _).mono ?_; rintro e w' ⟨rfl, hq⟩; obtain ⟨q, rfl⟩ := gr_of_below hq; clear hq))
        go_roundw
        case rel => exact ⟨k + 1, by omega, by go_num, hok2.out, by first | exact below_gr' hbl'.out hbl'.out.size | exact below_gr' (below_gr' hbl'.out hbl'.out.size) (by have := hbl'.out.size; simp; omega), by first | exact hB'.out.gr _ | exact (hB'.out.gr _).gr _⟩
        case measure => simp [intOf]; omega
      | false =>
        have hv := Lib.hid (fun w => validXY_bad hx.out hy.out hfin w)
        have hres := Lib.hid (hbad.out hfin)
        clear hokn hfin hbad
        go_wp2_with (first | (go_at_call 142; refine (hG2.out _ hpk.out hbw.out g0.out g1.out).mono ?_; rintro e w' ⟨rfl, hq⟩; obtain ⟨q, rfl⟩ := gr_of_below hq; clear hq) | (go_at_call 175; refine (hv.out _).mono ?_; rintro e w' ⟨⟨_, rfl, t, v, rfl⟩, hq⟩; obtain ⟨q, rfl⟩ := gr_of_below hq; clear hq) | (go_at_call 176; go_in))
        go_ret
        exact ⟨⟨_, rfl, by rw [hres.out]; exact ⟨_, _, rfl⟩⟩, by have h1 := hbl'.out; have h2 := h1.size; repeat (first | exact h1 | (refine below_gr' ?_ (by first | omega | (simp [go_sem] <;> omega))) | (refine Below.alloc ?_ (by first | omega | (simp [go_sem] <;> omega)) _))⟩
    · have hkn : k = n := by omega
      subst hkn
      go_wp2
      go_ret
      exact ⟨⟨_, rfl, by rw [hok'.out]; rfl⟩, hbl'.out⟩
end Go.Proofs.Ytpphfoggjejpiaa
