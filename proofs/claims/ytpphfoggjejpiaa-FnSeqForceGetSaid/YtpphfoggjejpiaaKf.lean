/-
  The walks over line strings, continued: the test of a line string, from the thin package in. Conditions: as each theorem states them.
-/
import Derived.Test.YtpphfoggjejpiaaKe
namespace Go.Proofs.Ytpphfoggjejpiaa
open Go.RowKit Fl Go.Sort

def lineOk (m : Nat) (fs : List Nat) (n : Nat) : Bool := decide (n = 0) || (okF m fs n && an1 m fs n)

set_option maxHeartbeats 2000000 in
theorem validate_any {d : Int} {b n : Nat} {fs : List Nat} (cap : Nat) (w : World) (h : SeqW d b n fs w) :
    Calls Try.prog 97 #[seqV d b fs.length cap] w fun e w' => (∃ v, e = .returned v ∧ ErrIf (lineOk (dimN d) fs n) v) ∧ Below w.heap.size w w' := by
  have hn' := h.n_le
  have hL := Lib.hid (fun w' (hb : Below w.heap.size w w') => (h.below hb).length cap)
  have hG := Lib.hid (fun i w' (hb : Below w.heap.size w w') hi => (h.below hb).getXY cap i hi)
  have hV := Lib.hid (fun w' (hb : Below w.heap.size w w') => seqValidate_any h.hd b cap n fs h.hn h.hl h.hw w' (h.below hb).hb (h.below hb).hc)
  have hT := Lib.hid (fun w' (hb : Below w.heap.size w w') => hasTwo_any cap w' (h.below hb))
  generalize dimN d = m at *
  clear h
  unfold seqV at *
  unfold lineOk
  rcases Nat.eq_zero_or_pos n with h0 | h0
  · subst h0
    go_enter Try.func97, Try.ntmps97
    go_wp2_with (go_at_call 135; refine (hL.out _ (by repeat (first | exact Below.refl _ _ | (refine below_gr' ?_ (by first | omega | (simp [go_sem] <;> omega))) | (refine Below.alloc ?_ (by first | omega | (simp [go_sem] <;> omega)) _) | refine Below.drew ?_ | (refine Below.setCell ?_ (by first | omega | (simp [go_sem] <;> omega)) _)))).mono ?_; rintro e w' ⟨rfl, hq⟩; obtain ⟨q, rfl⟩ := gr_of_below hq; clear hq)
    go_ret
    exact ⟨⟨_, rfl, rfl⟩, (by repeat (first | exact Below.refl _ _ | (refine below_gr' ?_ (by first | omega | (simp [go_sem] <;> omega))) | (refine Below.alloc ?_ (by first | omega | (simp [go_sem] <;> omega)) _) | refine Below.drew ?_ | (refine Below.setCell ?_ (by first | omega | (simp [go_sem] <;> omega)) _)))⟩
  · have h0' : ((n : Int) == 0) = false := by rw [beq_eq_false_iff_ne]; omega
    rw [decide_eq_false (by omega : ¬ n = 0), Bool.false_or]
    cases hok : okF m fs n with
    | false =>
      rw [hok] at hV
      go_enter Try.func97, Try.ntmps97
      go_wp2_with (first | (go_at_call 135; refine (hL.out _ (by repeat (first | exact Below.refl _ _ | (refine below_gr' ?_ (by first | omega | (simp [go_sem] <;> omega))) | (refine Below.alloc ?_ (by first | omega | (simp [go_sem] <;> omega)) _) | refine Below.drew ?_ | (refine Below.setCell ?_ (by first | omega | (simp [go_sem] <;> omega)) _)))).mono ?_; rintro e w' ⟨rfl, hq⟩; obtain ⟨q, rfl⟩ := gr_of_below hq; clear hq) | (go_at_call 139; refine (hV.out _ (by repeat (first | exact Below.refl _ _ | (refine below_gr' ?_ (by first | omega | (simp [go_sem] <;> omega))) | (refine Below.alloc ?_ (by first | omega | (simp [go_sem] <;> omega)) _) | refine Below.drew ?_ | (refine Below.setCell ?_ (by first | omega | (simp [go_sem] <;> omega)) _)))).mono ?_; rintro e w' ⟨⟨_, rfl, ⟨t, x, rfl⟩⟩, hq⟩; obtain ⟨q, rfl⟩ := gr_of_below hq; clear hq))
      go_ret
      exact ⟨⟨_, rfl, ⟨_, _, rfl⟩⟩, (by repeat (first | exact Below.refl _ _ | (refine below_gr' ?_ (by first | omega | (simp [go_sem] <;> omega))) | (refine Below.alloc ?_ (by first | omega | (simp [go_sem] <;> omega)) _) | refine Below.drew ?_ | (refine Below.setCell ?_ (by first | omega | (simp [go_sem] <;> omega)) _)))⟩
    | true =>
      rw [hok] at hV
      cases han : an1 m fs n with
      | true =>
        rw [han] at hT
        go_enter Try.func97, Try.ntmps97
        go_wp2_with (first | (go_at_call 135; refine (hL.out _ (by repeat (first | exact Below.refl _ _ | (refine below_gr' ?_ (by first | omega | (simp [go_sem] <;> omega))) | (refine Below.alloc ?_ (by first | omega | (simp [go_sem] <;> omega)) _) | refine Below.drew ?_ | (refine Below.setCell ?_ (by first | omega | (simp [go_sem] <;> omega)) _)))).mono ?_; rintro e w' ⟨rfl, hq⟩; obtain ⟨q, rfl⟩ := gr_of_below hq; clear hq) | (go_at_call 139; refine (hV.out _ (by repeat (first | exact Below.refl _ _ | (refine below_gr' ?_ (by first | omega | (simp [go_sem] <;> omega))) | (refine Below.alloc ?_ (by first | omega | (simp [go_sem] <;> omega)) _) | refine Below.drew ?_ | (refine Below.setCell ?_ (by first | omega | (simp [go_sem] <;> omega)) _)))).mono ?_; rintro e w' ⟨⟨_, rfl, hv⟩, hq⟩; obtain ⟨q, rfl⟩ := gr_of_below hq; clear hq; cases hv) | (go_at_call 140; refine (hT.out _ (by repeat (first | exact Below.refl _ _ | (refine below_gr' ?_ (by first | omega | (simp [go_sem] <;> omega))) | (refine Below.alloc ?_ (by first | omega | (simp [go_sem] <;> omega)) _) | refine Below.drew ?_ | (refine Below.setCell ?_ (by first | omega | (simp [go_sem] <;> omega)) _)))).mono ?_; rintro e w' ⟨rfl, hq⟩; obtain ⟨q, rfl⟩ := gr_of_below hq; clear hq))
        go_ret
        exact ⟨⟨_, rfl, rfl⟩, (by repeat (first | exact Below.refl _ _ | (refine below_gr' ?_ (by first | omega | (simp [go_sem] <;> omega))) | (refine Below.alloc ?_ (by first | omega | (simp [go_sem] <;> omega)) _) | refine Below.drew ?_ | (refine Below.setCell ?_ (by first | omega | (simp [go_sem] <;> omega)) _)))⟩
      | false =>
        rw [han] at hT
        go_enter Try.func97, Try.ntmps97
        go_wp2_with (first | (go_at_call 135; refine (hL.out _ (by repeat (first | exact Below.refl _ _ | (refine below_gr' ?_ (by first | omega | (simp [go_sem] <;> omega))) | (refine Below.alloc ?_ (by first | omega | (simp [go_sem] <;> omega)) _) | refine Below.drew ?_ | (refine Below.setCell ?_ (by first | omega | (simp [go_sem] <;> omega)) _)))).mono ?_; rintro e w' ⟨rfl, hq⟩; obtain ⟨q, rfl⟩ := gr_of_below hq; clear hq) | (go_at_call 139; refine (hV.out _ (by repeat (first | exact Below.refl _ _ | (refine below_gr' ?_ (by first | omega | (simp [go_sem] <;> omega))) | (refine Below.alloc ?_ (by first | omega | (simp [go_sem] <;> omega)) _) | refine Below.drew ?_ | (refine Below.setCell ?_ (by first | omega | (simp [go_sem] <;> omega)) _)))).mono ?_; rintro e w' ⟨⟨_, rfl, hv⟩, hq⟩; obtain ⟨q, rfl⟩ := gr_of_below hq; clear hq; cases hv) | (go_at_call 140; refine (hT.out _ (by repeat (first | exact Below.refl _ _ | (refine below_gr' ?_ (by first | omega | (simp [go_sem] <;> omega))) | (refine Below.alloc ?_ (by first | omega | (simp [go_sem] <;> omega)) _) | refine Below.drew ?_ | (refine Below.setCell ?_ (by first | omega | (simp [go_sem] <;> omega)) _)))).mono ?_; rintro e w' ⟨rfl, hq⟩; obtain ⟨q, rfl⟩ := gr_of_below hq; clear hq) | (go_at_call 142; refine (hG.out 0 _ (by repeat (first | exact Below.refl _ _ | (refine below_gr' ?_ (by first | omega | (simp [go_sem] <;> omega))) | (refine Below.alloc ?_ (by first | omega | (simp [go_sem] <;> omega)) _) | refine Below.drew ?_ | (refine Below.setCell ?_ (by first | omega | (simp [go_sem] <;> omega)) _))) h0).mono ?_; rintro e w' ⟨rfl, hq⟩; obtain ⟨q, rfl⟩ := gr_of_below hq; clear hq) | (go_at_call 141; go_in))
        go_ret
        exact ⟨⟨_, rfl, ⟨_, _, rfl⟩⟩, (by repeat (first | exact Below.refl _ _ | (refine below_gr' ?_ (by first | omega | (simp [go_sem] <;> omega))) | (refine Below.alloc ?_ (by first | omega | (simp [go_sem] <;> omega)) _) | refine Below.drew ?_ | (refine Below.setCell ?_ (by first | omega | (simp [go_sem] <;> omega)) _)))⟩

theorem newLine_any (d : Int) (b n cap : Nat) (w : World) :
    Calls Try.prog 131 #[seqV d b n cap] w fun e w' => e = .returned (seqV d b n cap) ∧ Below w.heap.size w w' := by
  unfold seqV
  go_enter Try.func131, Try.ntmps131
  go_wp2
  exact bodyPost_ret (v := .agg #[.int .u8 d, .slice (some ⟨b, 0, none⟩) n cap]) (by simp [results, Try.results131, go_sem]) rfl ⟨rfl, (by repeat (first | exact Below.refl _ _ | (refine below_gr' ?_ (by first | omega | (simp [go_sem] <;> omega))) | (refine Below.alloc ?_ (by first | omega | (simp [go_sem] <;> omega)) _) | refine Below.drew ?_ | (refine Below.setCell ?_ (by first | omega | (simp [go_sem] <;> omega)) _)))⟩

theorem gr_alloc_other (W : World) (o o' : Obj) (p : Regrown) (k : Nat) (h : k ≠ W.heap.size) : (gr (W.alloc o) p).heap[k]? = (gr (W.alloc o') p).heap[k]? := by
  simp only [gr, grow, redrawn, World.alloc]
  rw [Array.getElem?_append, Array.getElem?_append, Array.getElem?_push, Array.getElem?_push, if_neg h, if_neg h]
  simp

theorem FsAt.of_same {w w' : World} {B : Nat} {fs : List Nat} (h : FsAt w B 0 fs) (hs : w'.heap[B]? = w.heap[B]?) : FsAt w' B 0 fs := by
  intro i hi
  have := h i hi
  unfold World.cell? at *
  dsimp only at *
  rw [hs]
  exact this

/-- A line string as plain data. -/
def lineV (d : Int) (ao : Option Addr) (n cap : Nat) (ko : Option Addr) (kl kc : Nat) : Value := .agg #[.int .i64 2, .int .i64 d, .slice ao n cap, .slice ko kl kc]

set_option maxHeartbeats 1000000 in
theorem line_any {d : Int} (hd : D4 d) (ao : Option Addr) (cap : Nat) (fs : List Nat) (ko : Option Addr) (kl kc : Nat) (hr : Int.tmod (fs.length : Int) (dimN d : Int) = 0) (hn : (fs.length : Int) ≤ 1000000) (w : World) (hc : FsSl w ao fs) :
    Calls Try.prog 89 #[lineV d ao fs.length cap ko kl kc] w fun e w' => (∃ B, e = .returned (seqV d B fs.length fs.length) ∧ w.heap.size ≤ B ∧ B < w'.heap.size ∧ FsAt w' B 0 fs) ∧ Below w.heap.size w w' := by
  have hs := Lib.hid (fun w' (hb : Below w.heap.size w w') => sequence_any hd ao cap fs hr hn w' (hc.below hb))
  have hnl := Lib.hid (fun b n cap w => newLine_any d b n cap w)
  clear hd hr hn hc
  unfold lineV
  unfold seqV at *
  go_enter Try.func89, Try.ntmps89
  go_wp2_with (first | (go_at_call 132; refine (hs.out _ (by repeat (first | exact Below.refl _ _ | (refine below_gr' ?_ (by first | omega | (simp [go_sem] <;> omega))) | (refine Below.alloc ?_ (by first | omega | (simp [go_sem] <;> omega)) _) | refine Below.drew ?_ | (refine Below.setCell ?_ (by first | omega | (simp [go_sem] <;> omega)) _)))).mono ?_; rintro e w' ⟨⟨B, rfl, hge, hlt, hfs⟩, hq⟩; obtain ⟨q1, rfl⟩ := gr_of_below hq; clear hq; have hge' := Lib.hid hge; have hlt' := Lib.hid hlt; have hfs' := Lib.hid hfs; clear hge hlt hfs) | (go_at_call 131; refine (hnl.out _ _ _ _).mono ?_; rintro e w' ⟨rfl, hq⟩; obtain ⟨q2, rfl⟩ := gr_of_below hq; clear hq))
  have hs0 : ∀ (o1 o2 : Obj), ((w.alloc o1).alloc o2).heap.size = w.heap.size + 1 + 1 := fun _ _ => by simp
  have hge : w.heap.size + 1 + 1 ≤ B := by have h := hge'.out; rw [hs0] at h; exact h
  have hlt : B < w.heap.size + 1 + 1 + q1.os.size := by have h := hlt'.out; rw [gr_size, hs0] at h; exact h
  refine bodyPost_ret (v := .agg #[.int .u8 d, .slice (some ⟨B, 0, none⟩) fs.length fs.length]) (by simp [results, Try.results89, go_sem]) rfl ⟨⟨B, rfl, by omega, ?_, hfs'.out.of_same ?_⟩, (by repeat (first | exact Below.refl _ _ | (refine below_gr' ?_ (by first | omega | (simp [go_sem] <;> omega))) | (refine Below.alloc ?_ (by first | omega | (simp [go_sem] <;> omega)) _) | refine Below.drew ?_ | (refine Below.setCell ?_ (by first | omega | (simp [go_sem] <;> omega)) _)))⟩
  · rw [← gr_gr]
    exact Nat.lt_of_lt_of_le (by rw [gr_size, hs0]; exact hlt) (gr_below _ q2).size
  · rw [← gr_gr, (gr_below _ q2).block B (by rw [gr_size, hs0]; exact hlt)]
    exact gr_alloc_other _ _ _ q1 B (by simp; omega)

theorem lineValid_any {d : Int} (hd : D4 d) (ao : Option Addr) (cap : Nat) (fs : List Nat) (ko : Option Addr) (kl kc n : Nat) (hnn : n * dimN d = fs.length) (hn : (fs.length : Int) ≤ 1000000) (hw : ∀ x ∈ fs, x < 2 ^ 64) (w : World) (hc : FsSl w ao fs) :
    Calls Try.prog 46 #[lineV d ao fs.length cap ko kl kc] w fun e w' => e = .returned (.bool (lineOk (dimN d) fs n)) ∧ Below w.heap.size w w' := by
  have hr : Int.tmod (fs.length : Int) (dimN d : Int) = 0 := by
    rw [← hnn]
    exact congrArg Int.ofNat (Nat.mul_mod_left n (dimN d))
  have hli := Lib.hid (fun w' (hb : Below w.heap.size w w') => line_any hd ao cap fs ko kl kc hr hn w' (hc.below hb))
  have hv := Lib.hid (fun B w' hlt hfs => validate_any (d := d) (b := B) (n := n) (fs := fs) fs.length w' ⟨hd, hnn, hn, hw, hlt, hfs⟩)
  generalize lineOk (dimN d) fs n = R at *
  clear hr hd hnn hn hw hc
  unfold lineV at *
  unfold seqV at *
  cases R
  · go_enter Try.func46, Try.ntmps46
    go_wp2_with (first | (go_at_call 89; refine (hli.out _ (by repeat (first | exact Below.refl _ _ | (refine below_gr' ?_ (by first | omega | (simp [go_sem] <;> omega))) | (refine Below.alloc ?_ (by first | omega | (simp [go_sem] <;> omega)) _) | refine Below.drew ?_ | (refine Below.setCell ?_ (by first | omega | (simp [go_sem] <;> omega)) _)))).mono ?_; rintro e w' ⟨⟨B, rfl, hge, hlt, hfs⟩, hq⟩; obtain ⟨q1, rfl⟩ := gr_of_below hq; clear hq; have hge' := Lib.hid hge; have hlt' := Lib.hid hlt; have hfs' := Lib.hid hfs; clear hge hlt hfs) | (go_at_call 97; refine (hv.out _ _ hlt'.out hfs'.out).mono ?_; rintro e w' ⟨⟨_, rfl, ⟨t, x, rfl⟩⟩, hq⟩; obtain ⟨q2, rfl⟩ := gr_of_below hq; clear hq))
    go_ret
    exact ⟨rfl, (by repeat (first | exact Below.refl _ _ | (refine below_gr' ?_ (by first | omega | (simp [go_sem] <;> omega))) | (refine Below.alloc ?_ (by first | omega | (simp [go_sem] <;> omega)) _) | refine Below.drew ?_ | (refine Below.setCell ?_ (by first | omega | (simp [go_sem] <;> omega)) _)))⟩
  · go_enter Try.func46, Try.ntmps46
    go_wp2_with (first | (go_at_call 89; refine (hli.out _ (by repeat (first | exact Below.refl _ _ | (refine below_gr' ?_ (by first | omega | (simp [go_sem] <;> omega))) | (refine Below.alloc ?_ (by first | omega | (simp [go_sem] <;> omega)) _) | refine Below.drew ?_ | (refine Below.setCell ?_ (by first | omega | (simp [go_sem] <;> omega)) _)))).mono ?_; rintro e w' ⟨⟨B, rfl, hge, hlt, hfs⟩, hq⟩; obtain ⟨q1, rfl⟩ := gr_of_below hq; clear hq; have hge' := Lib.hid hge; have hlt' := Lib.hid hlt; have hfs' := Lib.hid hfs; clear hge hlt hfs) | (go_at_call 97; refine (hv.out _ _ hlt'.out hfs'.out).mono ?_; rintro e w' ⟨⟨_, rfl, hv⟩, hq⟩; obtain ⟨q2, rfl⟩ := gr_of_below hq; clear hq; cases hv))
    go_ret
    exact ⟨rfl, (by repeat (first | exact Below.refl _ _ | (refine below_gr' ?_ (by first | omega | (simp [go_sem] <;> omega))) | (refine Below.alloc ?_ (by first | omega | (simp [go_sem] <;> omega)) _) | refine Below.drew ?_ | (refine Below.setCell ?_ (by first | omega | (simp [go_sem] <;> omega)) _)))⟩
end Go.Proofs.Ytpphfoggjejpiaa
