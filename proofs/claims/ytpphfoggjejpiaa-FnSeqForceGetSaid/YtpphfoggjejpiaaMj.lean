/-
  The walk over Sequence.ForceCoordinatesType. Conditions: as each theorem states them.
-/
import Derived.Test.YtpphfoggjejpiaaMi
namespace Go.Proofs.Ytpphfoggjejpiaa
open Go.RowKit Fl Go.Sort

/-- A place's numbers under a type. -/
def numsOf (dd : Int) (q : Q4) : List Nat := if dd = 0 then [q.x, q.y] else if dd = 1 then [q.x, q.y, q.z] else if dd = 2 then [q.x, q.y, q.m] else [q.x, q.y, q.z, q.m]
theorem numsOf_length {dd : Int} (h : D4 dd) (q : Q4) : (numsOf dd q).length = dimN dd := by
  rcases h with rfl | rfl | rfl | rfl <;> rfl

/-- The numbers of the first places under another type. -/
def frcL (d dd : Int) (fs : List Nat) (m : Nat) : Nat → List Nat
  | 0 => []
  | k + 1 => frcL d dd fs m k ++ numsOf dd (plc d fs (k * m))

theorem frcL_length {dd : Int} (h : D4 dd) (d : Int) (fs : List Nat) (m : Nat) : ∀ k, (frcL d dd fs m k).length = k * dimN dd
  | 0 => by simp [frcL]
  | k + 1 => by rw [frcL, List.length_append, frcL_length h d fs m k, numsOf_length h, Nat.succ_mul]

theorem frcL_at {dd : Int} (h : D4 dd) (d : Int) (fs : List Nat) (m : Nat) : ∀ n k t, k < n → t < dimN dd → (frcL d dd fs m n)[k * dimN dd + t]? = (numsOf dd (plc d fs (k * m)))[t]?
  | 0, k, t, hk, _ => absurd hk (Nat.not_lt_zero k)
  | n + 1, k, t, hk, ht => by
    rw [frcL]
    by_cases hkn : k = n
    · subst hkn
      rw [List.getElem?_append_right (by rw [frcL_length h]; omega), frcL_length h]
      congr 1
      omega
    · have h1 := frcL_at h d fs m n k t (by omega) ht
      have h2 : k * dimN dd + t < n * dimN dd := by
        have : (k + 1) * dimN dd ≤ n * dimN dd := Nat.mul_le_mul_right _ (by omega)
        rw [Nat.succ_mul] at this
        omega
      rw [List.getElem?_append_left (by rw [frcL_length h]; exact h2)]
      exact h1

theorem fsAt_of_arr {w : World} {B : Nat} {c : Array Value} {fs : List Nat} (h : Blk w B c) (hc : ∀ j, j < fs.length → c[j]? = some (.float .f64 (fs[j]?.getD 0))) : FsAt w B 0 fs := by
  intro i hi
  rw [Nat.zero_add, h.cell]
  exact hc i hi


set_option maxRecDepth 8000 in
set_option maxHeartbeats 4000000 in
theorem force_0 {d : Int} (hd : D4 d) (hne : (d == 0) = false) (b cap n L : Nat) (fs : List Nat) (hn : n * dimN d = fs.length) (hL : n * 2 = L) (h0 : 0 < fs.length) (hl : (fs.length : Int) ≤ 10000) (w : World) (hb : b < w.heap.size) (hc : FsAt w b 0 fs) :
    Calls Try.prog 93 #[seqV d b fs.length cap, .int .u8 0] w fun en w' => (∃ P, en = .returned (seqV 0 P L L) ∧ P < w'.heap.size ∧ FsAt w' P 0 (frcL d 0 fs (dimN d) n)) ∧ Below w.heap.size w w' := by
  have hm2 : 2 ≤ dimN d := by rcases dimN_cases d with h | h | h <;> omega
  have hn1 : n ≤ fs.length := by have := Nat.mul_le_mul_left n hm2; omega
  have hS0 : SeqW d b n fs w → True := fun _ => trivial
  have hlen := Lib.hid (fun w' (hbw : Below w.heap.size w w') => length_any hd b fs.length cap (by omega) w')
  rw [← hn, Nat.mul_div_cancel _ (by omega : 0 < dimN d), hn] at hlen
  have hdim := Lib.hid (fun w => dim_any (d := 0) (by unfold D4; omega) w)
  rw [show dimN 0 = 2 from rfl] at hdim
  have hget := Lib.hid (fun k w' (hbw : Below w.heap.size w w') (hk : k < n) => get_any hd b cap k (k * dimN d) fs rfl (by rw [← hn, ← Nat.succ_mul]; exact Nat.mul_le_mul_right _ hk) (by omega) w' (Nat.lt_of_lt_of_le hb hbw.size) (hc.below hbw hb))
  have hLi : (L : Int) ≤ 1000000 := by omega
  have hmk := make_f64 L hLi
  have hmul : (2 : Int) * (n : Int) = (L : Int) := by omega
  have h0' : ((fs.length : Int) == 0) = false := by rw [beq_eq_false_iff_ne]; omega
  have hn6 : (n : Int) ≤ 10000 := by omega
  have hFl := Lib.hid (frcL_length (dd := 0) (by unfold D4; omega) d fs (dimN d) n)
  unfold seqV coV at *
  clear hc hS0
  go_enter Try.func93, Try.ntmps93
  go_wp2_with (first | (go_at_call 135; refine (hlen.out _ (by repeat (first | exact Below.refl _ _ | (refine below_gr' ?_ (by first | omega | (simp [go_sem] <;> omega))) | (refine Below.alloc ?_ (by first | omega | (simp [go_sem] <;> omega)) _) | refine Below.drew ?_ | (refine Below.setCell ?_ (by first | omega | (simp [go_sem] <;> omega)) _)))).mono ?_; rintro e w' ⟨rfl, hq⟩; obtain ⟨q1, rfl⟩ := gr_of_below hq; clear hq) | (go_at_call 133; refine (hdim.out _).mono ?_; rintro e w' ⟨rfl, hq⟩; obtain ⟨q2, rfl⟩ := gr_of_below hq; clear hq))
  generalize hPe0 : w.heap.size + 1 + 1 + (rthen q1 q2).os.size = P
  have hPge : Hid (w.heap.size + 1 + 1 ≤ P) := Lib.hid (by omega)
  have hPe := Lib.hid hPe0
  clear hPe0
  go_loopw [8] (fun i wr => ∃ (k : Nat) (c : Array Value), k ≤ n ∧ i = .int .i64 k ∧ Below w.heap.size w wr ∧ Blk wr w.heap.size #[.int .u8 d, .slice (some ⟨b, 0, none⟩) fs.length cap] ∧ Blk wr (w.heap.size + 1) #[.int .u8 0, .slice none 0 0] ∧ Blk wr P c ∧ c.size = L ∧ ∀ j, j < k * 2 → c[j]? = some (.float .f64 ((frcL d 0 fs (dimN d) n)[j]?.getD 0))) (fun i _ => n - (intOf i).toNat)
  case atStart =>
    refine ⟨0, Array.replicate L (.float .f64 0), Nat.zero_le _, rfl, (by repeat (first | exact Below.refl _ _ | (refine below_gr' ?_ (by first | omega | (simp [go_sem] <;> omega))) | (refine Below.alloc ?_ (by first | omega | (simp [go_sem] <;> omega)) _) | refine Below.drew ?_ | (refine Below.setCell ?_ (by first | omega | (simp [go_sem] <;> omega)) _))), (((Blk.new _ _ _).alloc _).gr _).alloc _, ((Blk.new' _ _ _ _ (by simp)).gr _).alloc _, Blk.new' _ _ _ _ (by rw [← hPe.out]; simp [go_sem]), by simp, fun j hj => absurd hj (by omega)⟩
  case round =>
    obtain ⟨k, c, hk, rfl, hbl, hS, hR, hP, hcs, hcj⟩ := hrel
    have hbl' := Lib.hid hbl
    have hS' := Lib.hid hS
    have hR' := Lib.hid hR
    have hP' := Lib.hid hP
    have hcj' := Lib.hid hcj
    have hcS := hS.cell
    have hlS := hS.lt
    have hcP := hP.cell
    have hfP := hP.frozen
    have hlP := hP.lt
    clear hS hP hcj
    by_cases hlt : k < n
    · have hG := Lib.hid (hget.out k wr hbl hlt)
      have f0 := frcL_at (dd := 0) (by unfold D4; omega) d fs (dimN d) n k 0 hlt (by show 0 < 2; omega)
      have f1 := frcL_at (dd := 0) (by unfold D4; omega) d fs (dimN d) n k 1 hlt (by show 1 < 2; omega)
      obtain ⟨a, ha⟩ : ∃ a, a = k * 2 := ⟨_, rfl⟩
      have haL : a + 2 ≤ L := by omega
      have ha' : (2 : Int) * (k : Int) = (a : Int) := by omega
      have hn1' : ∀ t, (P = wr.heap.size + t) = False := fun t => by simp; omega
      have hn2' : ∀ t, (wr.heap.size + t = P) = False := fun t => by simp; omega
      simp only [show dimN 0 = 2 from rfl, ← ha, numsOf, plc, Nat.add_zero] at f0 f1
      generalize fs[k * dimN d]?.getD 0 = x at *
      generalize fs[k * dimN d + 1]?.getD 0 = y at *
      generalize fz d fs (k * dimN d) = z at *
      generalize fm d fs (k * dimN d) = mm at *
      simp at f0 f1
      obtain ⟨u0, hu0⟩ : ∃ u, c[a]? = some u := ⟨_, Array.getElem?_eq_getElem (by omega)⟩
      have hx0 : wr.cell? ⟨P, a, none⟩ = some u0 := by rw [hcP]; exact hu0
      obtain ⟨u1, hu1⟩ : ∃ u, c[a + 1]? = some u := ⟨_, Array.getElem?_eq_getElem (by omega)⟩
      have hx1 : wr.cell? ⟨P, a + 1, none⟩ = some u1 := by rw [hcP]; exact hu1
      have hf' := Lib.hid (And.intro f0 f1)
      have ha2 := Lib.hid ha
      clear hR hbl f0 f1 ha
      go_wp2_with (go_at_call 91; refine (hG.out).mono ?_; rintro e w' ⟨rfl, hq⟩; obtain ⟨q, rfl⟩ := gr_of_below hq; clear hq)
      go_roundw
      case rel =>
        refine ⟨k + 1, ((c).setIfInBounds a (.float .f64 x)).setIfInBounds (a + 1) (.float .f64 y), by omega, by go_num, ?_, (((hS'.out.setCell_ne (by show w.heap.size ≠ P; have := hPge.out; omega) _).setCell_ne (by show w.heap.size ≠ P; have := hPge.out; omega) _).gr q).alloc _, (((hR'.out.setCell_ne (by show w.heap.size + 1 ≠ P; have := hPge.out; omega) _).setCell_ne (by show w.heap.size + 1 ≠ P; have := hPge.out; omega) _).gr q).alloc _, (((hP'.out.setCell a _).setCell (a + 1) _).gr q).alloc _, by simp [hcs], fun j hj => ?_⟩
        · have h1 := hbl'.out
          have h2 := h1.size
          have h3 := hPge.out
          repeat (first | exact h1 | (refine Below.alloc ?_ (by first | omega | (simp [go_sem, World.setCell] <;> omega)) _) | (refine below_gr' ?_ (by first | omega | (simp [go_sem, World.setCell] <;> omega))) | (refine Below.setCell ?_ (by show w.heap.size ≤ P; omega) _))
        · have ha3 := ha2.out
          rcases Nat.lt_or_ge j a with h | h
          · rw [Array.getElem?_setIfInBounds_ne (by omega), Array.getElem?_setIfInBounds_ne (by omega)]
            exact hcj'.out j (by omega)
          · have hj3 : j = a ∨ j = a + 1 := by omega
            obtain ⟨f0, f1⟩ := hf'.out
            have s0 : a < c.size := by omega
            have s1 : a + 1 < c.size := by omega
            rcases hj3 with rfl | rfl
            · rw [f0]; simp [Array.getElem?_setIfInBounds, s0, s1]
            · rw [f1]; simp [Array.getElem?_setIfInBounds, s0, s1]
      case measure => simp [intOf]; omega
    · have hkn : k = n := by omega
      subst hkn
      have hcR := hR.cell
      have hfR := hR.frozen
      have hlR := hR.lt
      clear hR hbl
      go_wp2
      refine bodyPost_ret (v := .agg #[.int .u8 0, .slice (some ⟨P, 0, none⟩) L L]) (by simp [results, Try.results93, go_sem, hcR]) rfl ⟨⟨P, rfl, by simpa [World.setCell] using hlP, fsAt_of_arr ((hP'.out.setCell_ne (by show P ≠ w.heap.size + 1; have := hPge.out; omega) _).setCell_ne (by show P ≠ w.heap.size + 1; have := hPge.out; omega) _) (fun j hj => hcj'.out j (by rw [hFl.out] at hj; exact hj))⟩, (hbl'.out.setCell (by show w.heap.size ≤ w.heap.size + 1; omega) _).setCell (by show w.heap.size ≤ w.heap.size + 1; omega) _⟩

set_option maxRecDepth 8000 in
set_option maxHeartbeats 4000000 in
theorem force_1 {d : Int} (hd : D4 d) (hne : (d == 1) = false) (b cap n L : Nat) (fs : List Nat) (hn : n * dimN d = fs.length) (hL : n * 3 = L) (h0 : 0 < fs.length) (hl : (fs.length : Int) ≤ 10000) (w : World) (hb : b < w.heap.size) (hc : FsAt w b 0 fs) :
    Calls Try.prog 93 #[seqV d b fs.length cap, .int .u8 1] w fun en w' => (∃ P, en = .returned (seqV 1 P L L) ∧ P < w'.heap.size ∧ FsAt w' P 0 (frcL d 1 fs (dimN d) n)) ∧ Below w.heap.size w w' := by
  have hm2 : 2 ≤ dimN d := by rcases dimN_cases d with h | h | h <;> omega
  have hn1 : n ≤ fs.length := by have := Nat.mul_le_mul_left n hm2; omega
  have hS0 : SeqW d b n fs w → True := fun _ => trivial
  have hlen := Lib.hid (fun w' (hbw : Below w.heap.size w w') => length_any hd b fs.length cap (by omega) w')
  rw [← hn, Nat.mul_div_cancel _ (by omega : 0 < dimN d), hn] at hlen
  have hdim := Lib.hid (fun w => dim_any (d := 1) (by unfold D4; omega) w)
  rw [show dimN 1 = 3 from rfl] at hdim
  have hget := Lib.hid (fun k w' (hbw : Below w.heap.size w w') (hk : k < n) => get_any hd b cap k (k * dimN d) fs rfl (by rw [← hn, ← Nat.succ_mul]; exact Nat.mul_le_mul_right _ hk) (by omega) w' (Nat.lt_of_lt_of_le hb hbw.size) (hc.below hbw hb))
  have hLi : (L : Int) ≤ 1000000 := by omega
  have hmk := make_f64 L hLi
  have hmul : (3 : Int) * (n : Int) = (L : Int) := by omega
  have h0' : ((fs.length : Int) == 0) = false := by rw [beq_eq_false_iff_ne]; omega
  have hn6 : (n : Int) ≤ 10000 := by omega
  have hFl := Lib.hid (frcL_length (dd := 1) (by unfold D4; omega) d fs (dimN d) n)
  unfold seqV coV at *
  clear hc hS0
  go_enter Try.func93, Try.ntmps93
  go_wp2_with (first | (go_at_call 135; refine (hlen.out _ (by repeat (first | exact Below.refl _ _ | (refine below_gr' ?_ (by first | omega | (simp [go_sem] <;> omega))) | (refine Below.alloc ?_ (by first | omega | (simp [go_sem] <;> omega)) _) | refine Below.drew ?_ | (refine Below.setCell ?_ (by first | omega | (simp [go_sem] <;> omega)) _)))).mono ?_; rintro e w' ⟨rfl, hq⟩; obtain ⟨q1, rfl⟩ := gr_of_below hq; clear hq) | (go_at_call 133; refine (hdim.out _).mono ?_; rintro e w' ⟨rfl, hq⟩; obtain ⟨q2, rfl⟩ := gr_of_below hq; clear hq))
  generalize hPe0 : w.heap.size + 1 + 1 + (rthen q1 q2).os.size = P
  have hPge : Hid (w.heap.size + 1 + 1 ≤ P) := Lib.hid (by omega)
  have hPe := Lib.hid hPe0
  clear hPe0
  go_loopw [8] (fun i wr => ∃ (k : Nat) (c : Array Value), k ≤ n ∧ i = .int .i64 k ∧ Below w.heap.size w wr ∧ Blk wr w.heap.size #[.int .u8 d, .slice (some ⟨b, 0, none⟩) fs.length cap] ∧ Blk wr (w.heap.size + 1) #[.int .u8 0, .slice none 0 0] ∧ Blk wr P c ∧ c.size = L ∧ ∀ j, j < k * 3 → c[j]? = some (.float .f64 ((frcL d 1 fs (dimN d) n)[j]?.getD 0))) (fun i _ => n - (intOf i).toNat)
  case atStart =>
    refine ⟨0, Array.replicate L (.float .f64 0), Nat.zero_le _, rfl, (by repeat (first | exact Below.refl _ _ | (refine below_gr' ?_ (by first | omega | (simp [go_sem] <;> omega))) | (refine Below.alloc ?_ (by first | omega | (simp [go_sem] <;> omega)) _) | refine Below.drew ?_ | (refine Below.setCell ?_ (by first | omega | (simp [go_sem] <;> omega)) _))), (((Blk.new _ _ _).alloc _).gr _).alloc _, ((Blk.new' _ _ _ _ (by simp)).gr _).alloc _, Blk.new' _ _ _ _ (by rw [← hPe.out]; simp [go_sem]), by simp, fun j hj => absurd hj (by omega)⟩
  case round =>
    obtain ⟨k, c, hk, rfl, hbl, hS, hR, hP, hcs, hcj⟩ := hrel
    have hbl' := Lib.hid hbl
    have hS' := Lib.hid hS
    have hR' := Lib.hid hR
    have hP' := Lib.hid hP
    have hcj' := Lib.hid hcj
    have hcS := hS.cell
    have hlS := hS.lt
    have hcP := hP.cell
    have hfP := hP.frozen
    have hlP := hP.lt
    clear hS hP hcj
    by_cases hlt : k < n
    · have hG := Lib.hid (hget.out k wr hbl hlt)
      have f0 := frcL_at (dd := 1) (by unfold D4; omega) d fs (dimN d) n k 0 hlt (by show 0 < 3; omega)
      have f1 := frcL_at (dd := 1) (by unfold D4; omega) d fs (dimN d) n k 1 hlt (by show 1 < 3; omega)
      have f2 := frcL_at (dd := 1) (by unfold D4; omega) d fs (dimN d) n k 2 hlt (by show 2 < 3; omega)
      obtain ⟨a, ha⟩ : ∃ a, a = k * 3 := ⟨_, rfl⟩
      have haL : a + 3 ≤ L := by omega
      have ha' : (3 : Int) * (k : Int) = (a : Int) := by omega
      have hn1' : ∀ t, (P = wr.heap.size + t) = False := fun t => by simp; omega
      have hn2' : ∀ t, (wr.heap.size + t = P) = False := fun t => by simp; omega
      simp only [show dimN 1 = 3 from rfl, ← ha, numsOf, plc, Nat.add_zero] at f0 f1 f2
      generalize fs[k * dimN d]?.getD 0 = x at *
      generalize fs[k * dimN d + 1]?.getD 0 = y at *
      generalize fz d fs (k * dimN d) = z at *
      generalize fm d fs (k * dimN d) = mm at *
      simp at f0 f1 f2
      obtain ⟨u0, hu0⟩ : ∃ u, c[a]? = some u := ⟨_, Array.getElem?_eq_getElem (by omega)⟩
      have hx0 : wr.cell? ⟨P, a, none⟩ = some u0 := by rw [hcP]; exact hu0
      obtain ⟨u1, hu1⟩ : ∃ u, c[a + 1]? = some u := ⟨_, Array.getElem?_eq_getElem (by omega)⟩
      have hx1 : wr.cell? ⟨P, a + 1, none⟩ = some u1 := by rw [hcP]; exact hu1
      obtain ⟨u2, hu2⟩ : ∃ u, c[a + 2]? = some u := ⟨_, Array.getElem?_eq_getElem (by omega)⟩
      have hx2 : wr.cell? ⟨P, a + 2, none⟩ = some u2 := by rw [hcP]; exact hu2
      have hf' := Lib.hid (And.intro f0 (And.intro f1 f2))
      have ha2 := Lib.hid ha
      clear hR hbl f0 f1 f2 ha
      go_wp2_with (go_at_call 91; refine (hG.out).mono ?_; rintro e w' ⟨rfl, hq⟩; obtain ⟨q, rfl⟩ := gr_of_below hq; clear hq)
      go_roundw
      case rel =>
        refine ⟨k + 1, (((c).setIfInBounds a (.float .f64 x)).setIfInBounds (a + 1) (.float .f64 y)).setIfInBounds (a + 2) (.float .f64 z), by omega, by go_num, ?_, ((((hS'.out.setCell_ne (by show w.heap.size ≠ P; have := hPge.out; omega) _).setCell_ne (by show w.heap.size ≠ P; have := hPge.out; omega) _).setCell_ne (by show w.heap.size ≠ P; have := hPge.out; omega) _).gr q).alloc _, ((((hR'.out.setCell_ne (by show w.heap.size + 1 ≠ P; have := hPge.out; omega) _).setCell_ne (by show w.heap.size + 1 ≠ P; have := hPge.out; omega) _).setCell_ne (by show w.heap.size + 1 ≠ P; have := hPge.out; omega) _).gr q).alloc _, ((((hP'.out.setCell a _).setCell (a + 1) _).setCell (a + 2) _).gr q).alloc _, by simp [hcs], fun j hj => ?_⟩
        · have h1 := hbl'.out
          have h2 := h1.size
          have h3 := hPge.out
          repeat (first | exact h1 | (refine Below.alloc ?_ (by first | omega | (simp [go_sem, World.setCell] <;> omega)) _) | (refine below_gr' ?_ (by first | omega | (simp [go_sem, World.setCell] <;> omega))) | (refine Below.setCell ?_ (by show w.heap.size ≤ P; omega) _))
        · have ha3 := ha2.out
          rcases Nat.lt_or_ge j a with h | h
          · rw [Array.getElem?_setIfInBounds_ne (by omega), Array.getElem?_setIfInBounds_ne (by omega), Array.getElem?_setIfInBounds_ne (by omega)]
            exact hcj'.out j (by omega)
          · have hj3 : j = a ∨ j = a + 1 ∨ j = a + 2 := by omega
            obtain ⟨f0, f1, f2⟩ := hf'.out
            have s0 : a < c.size := by omega
            have s1 : a + 1 < c.size := by omega
            have s2 : a + 2 < c.size := by omega
            rcases hj3 with rfl | rfl | rfl
            · rw [f0]; simp [Array.getElem?_setIfInBounds, s0, s1, s2]
            · rw [f1]; simp [Array.getElem?_setIfInBounds, s0, s1, s2]
            · rw [f2]; simp [Array.getElem?_setIfInBounds, s0, s1, s2]
      case measure => simp [intOf]; omega
    · have hkn : k = n := by omega
      subst hkn
      have hcR := hR.cell
      have hfR := hR.frozen
      have hlR := hR.lt
      clear hR hbl
      go_wp2
      refine bodyPost_ret (v := .agg #[.int .u8 1, .slice (some ⟨P, 0, none⟩) L L]) (by simp [results, Try.results93, go_sem, hcR]) rfl ⟨⟨P, rfl, by simpa [World.setCell] using hlP, fsAt_of_arr ((hP'.out.setCell_ne (by show P ≠ w.heap.size + 1; have := hPge.out; omega) _).setCell_ne (by show P ≠ w.heap.size + 1; have := hPge.out; omega) _) (fun j hj => hcj'.out j (by rw [hFl.out] at hj; exact hj))⟩, (hbl'.out.setCell (by show w.heap.size ≤ w.heap.size + 1; omega) _).setCell (by show w.heap.size ≤ w.heap.size + 1; omega) _⟩

set_option maxRecDepth 8000 in
set_option maxHeartbeats 4000000 in
theorem force_2 {d : Int} (hd : D4 d) (hne : (d == 2) = false) (b cap n L : Nat) (fs : List Nat) (hn : n * dimN d = fs.length) (hL : n * 3 = L) (h0 : 0 < fs.length) (hl : (fs.length : Int) ≤ 10000) (w : World) (hb : b < w.heap.size) (hc : FsAt w b 0 fs) :
    Calls Try.prog 93 #[seqV d b fs.length cap, .int .u8 2] w fun en w' => (∃ P, en = .returned (seqV 2 P L L) ∧ P < w'.heap.size ∧ FsAt w' P 0 (frcL d 2 fs (dimN d) n)) ∧ Below w.heap.size w w' := by
  have hm2 : 2 ≤ dimN d := by rcases dimN_cases d with h | h | h <;> omega
  have hn1 : n ≤ fs.length := by have := Nat.mul_le_mul_left n hm2; omega
  have hS0 : SeqW d b n fs w → True := fun _ => trivial
  have hlen := Lib.hid (fun w' (hbw : Below w.heap.size w w') => length_any hd b fs.length cap (by omega) w')
  rw [← hn, Nat.mul_div_cancel _ (by omega : 0 < dimN d), hn] at hlen
  have hdim := Lib.hid (fun w => dim_any (d := 2) (by unfold D4; omega) w)
  rw [show dimN 2 = 3 from rfl] at hdim
  have hget := Lib.hid (fun k w' (hbw : Below w.heap.size w w') (hk : k < n) => get_any hd b cap k (k * dimN d) fs rfl (by rw [← hn, ← Nat.succ_mul]; exact Nat.mul_le_mul_right _ hk) (by omega) w' (Nat.lt_of_lt_of_le hb hbw.size) (hc.below hbw hb))
  have hLi : (L : Int) ≤ 1000000 := by omega
  have hmk := make_f64 L hLi
  have hmul : (3 : Int) * (n : Int) = (L : Int) := by omega
  have h0' : ((fs.length : Int) == 0) = false := by rw [beq_eq_false_iff_ne]; omega
  have hn6 : (n : Int) ≤ 10000 := by omega
  have hFl := Lib.hid (frcL_length (dd := 2) (by unfold D4; omega) d fs (dimN d) n)
  unfold seqV coV at *
  clear hc hS0
  go_enter Try.func93, Try.ntmps93
  go_wp2_with (first | (go_at_call 135; refine (hlen.out _ (by repeat (first | exact Below.refl _ _ | (refine below_gr' ?_ (by first | omega | (simp [go_sem] <;> omega))) | (refine Below.alloc ?_ (by first | omega | (simp [go_sem] <;> omega)) _) | refine Below.drew ?_ | (refine Below.setCell ?_ (by first | omega | (simp [go_sem] <;> omega)) _)))).mono ?_; rintro e w' ⟨rfl, hq⟩; obtain ⟨q1, rfl⟩ := gr_of_below hq; clear hq) | (go_at_call 133; refine (hdim.out _).mono ?_; rintro e w' ⟨rfl, hq⟩; obtain ⟨q2, rfl⟩ := gr_of_below hq; clear hq))
  generalize hPe0 : w.heap.size + 1 + 1 + (rthen q1 q2).os.size = P
  have hPge : Hid (w.heap.size + 1 + 1 ≤ P) := Lib.hid (by omega)
  have hPe := Lib.hid hPe0
  clear hPe0
  go_loopw [8] (fun i wr => ∃ (k : Nat) (c : Array Value), k ≤ n ∧ i = .int .i64 k ∧ Below w.heap.size w wr ∧ Blk wr w.heap.size #[.int .u8 d, .slice (some ⟨b, 0, none⟩) fs.length cap] ∧ Blk wr (w.heap.size + 1) #[.int .u8 0, .slice none 0 0] ∧ Blk wr P c ∧ c.size = L ∧ ∀ j, j < k * 3 → c[j]? = some (.float .f64 ((frcL d 2 fs (dimN d) n)[j]?.getD 0))) (fun i _ => n - (intOf i).toNat)
  case atStart =>
    refine ⟨0, Array.replicate L (.float .f64 0), Nat.zero_le _, rfl, (by repeat (first | exact Below.refl _ _ | (refine below_gr' ?_ (by first | omega | (simp [go_sem] <;> omega))) | (refine Below.alloc ?_ (by first | omega | (simp [go_sem] <;> omega)) _) | refine Below.drew ?_ | (refine Below.setCell ?_ (by first | omega | (simp [go_sem] <;> omega)) _))), (((Blk.new _ _ _).alloc _).gr _).alloc _, ((Blk.new' _ _ _ _ (by simp)).gr _).alloc _, Blk.new' _ _ _ _ (by rw [← hPe.out]; simp [go_sem]), by simp, fun j hj => absurd hj (by omega)⟩
  case round =>
    obtain ⟨k, c, hk, rfl, hbl, hS, hR, hP, hcs, hcj⟩ := hrel
    have hbl' := Lib.hid hbl
    have hS' := Lib.hid hS
    have hR' := Lib.hid hR
    have hP' := Lib.hid hP
    have hcj' := Lib.hid hcj
    have hcS := hS.cell
    have hlS := hS.lt
    have hcP := hP.cell
    have hfP := hP.frozen
    have hlP := hP.lt
    clear hS hP hcj
    by_cases hlt : k < n
    · have hG := Lib.hid (hget.out k wr hbl hlt)
      have f0 := frcL_at (dd := 2) (by unfold D4; omega) d fs (dimN d) n k 0 hlt (by show 0 < 3; omega)
      have f1 := frcL_at (dd := 2) (by unfold D4; omega) d fs (dimN d) n k 1 hlt (by show 1 < 3; omega)
      have f2 := frcL_at (dd := 2) (by unfold D4; omega) d fs (dimN d) n k 2 hlt (by show 2 < 3; omega)
      obtain ⟨a, ha⟩ : ∃ a, a = k * 3 := ⟨_, rfl⟩
      have haL : a + 3 ≤ L := by omega
      have ha' : (3 : Int) * (k : Int) = (a : Int) := by omega
      have hn1' : ∀ t, (P = wr.heap.size + t) = False := fun t => by simp; omega
      have hn2' : ∀ t, (wr.heap.size + t = P) = False := fun t => by simp; omega
      simp only [show dimN 2 = 3 from rfl, ← ha, numsOf, plc, Nat.add_zero] at f0 f1 f2
      generalize fs[k * dimN d]?.getD 0 = x at *
      generalize fs[k * dimN d + 1]?.getD 0 = y at *
      generalize fz d fs (k * dimN d) = z at *
      generalize fm d fs (k * dimN d) = mm at *
      simp at f0 f1 f2
      obtain ⟨u0, hu0⟩ : ∃ u, c[a]? = some u := ⟨_, Array.getElem?_eq_getElem (by omega)⟩
      have hx0 : wr.cell? ⟨P, a, none⟩ = some u0 := by rw [hcP]; exact hu0
      obtain ⟨u1, hu1⟩ : ∃ u, c[a + 1]? = some u := ⟨_, Array.getElem?_eq_getElem (by omega)⟩
      have hx1 : wr.cell? ⟨P, a + 1, none⟩ = some u1 := by rw [hcP]; exact hu1
      obtain ⟨u2, hu2⟩ : ∃ u, c[a + 2]? = some u := ⟨_, Array.getElem?_eq_getElem (by omega)⟩
      have hx2 : wr.cell? ⟨P, a + 2, none⟩ = some u2 := by rw [hcP]; exact hu2
      have hf' := Lib.hid (And.intro f0 (And.intro f1 f2))
      have ha2 := Lib.hid ha
      clear hR hbl f0 f1 f2 ha
      go_wp2_with (go_at_call 91; refine (hG.out).mono ?_; rintro e w' ⟨rfl, hq⟩; obtain ⟨q, rfl⟩ := gr_of_below hq; clear hq)
      go_roundw
      case rel =>
        refine ⟨k + 1, (((c).setIfInBounds a (.float .f64 x)).setIfInBounds (a + 1) (.float .f64 y)).setIfInBounds (a + 2) (.float .f64 mm), by omega, by go_num, ?_, ((((hS'.out.setCell_ne (by show w.heap.size ≠ P; have := hPge.out; omega) _).setCell_ne (by show w.heap.size ≠ P; have := hPge.out; omega) _).setCell_ne (by show w.heap.size ≠ P; have := hPge.out; omega) _).gr q).alloc _, ((((hR'.out.setCell_ne (by show w.heap.size + 1 ≠ P; have := hPge.out; omega) _).setCell_ne (by show w.heap.size + 1 ≠ P; have := hPge.out; omega) _).setCell_ne (by show w.heap.size + 1 ≠ P; have := hPge.out; omega) _).gr q).alloc _, ((((hP'.out.setCell a _).setCell (a + 1) _).setCell (a + 2) _).gr q).alloc _, by simp [hcs], fun j hj => ?_⟩
        · have h1 := hbl'.out
          have h2 := h1.size
          have h3 := hPge.out
          repeat (first | exact h1 | (refine Below.alloc ?_ (by first | omega | (simp [go_sem, World.setCell] <;> omega)) _) | (refine below_gr' ?_ (by first | omega | (simp [go_sem, World.setCell] <;> omega))) | (refine Below.setCell ?_ (by show w.heap.size ≤ P; omega) _))
        · have ha3 := ha2.out
          rcases Nat.lt_or_ge j a with h | h
          · rw [Array.getElem?_setIfInBounds_ne (by omega), Array.getElem?_setIfInBounds_ne (by omega), Array.getElem?_setIfInBounds_ne (by omega)]
            exact hcj'.out j (by omega)
          · have hj3 : j = a ∨ j = a + 1 ∨ j = a + 2 := by omega
            obtain ⟨f0, f1, f2⟩ := hf'.out
            have s0 : a < c.size := by omega
            have s1 : a + 1 < c.size := by omega
            have s2 : a + 2 < c.size := by omega
            rcases hj3 with rfl | rfl | rfl
            · rw [f0]; simp [Array.getElem?_setIfInBounds, s0, s1, s2]
            · rw [f1]; simp [Array.getElem?_setIfInBounds, s0, s1, s2]
            · rw [f2]; simp [Array.getElem?_setIfInBounds, s0, s1, s2]
      case measure => simp [intOf]; omega
    · have hkn : k = n := by omega
      subst hkn
      have hcR := hR.cell
      have hfR := hR.frozen
      have hlR := hR.lt
      clear hR hbl
      go_wp2
      refine bodyPost_ret (v := .agg #[.int .u8 2, .slice (some ⟨P, 0, none⟩) L L]) (by simp [results, Try.results93, go_sem, hcR]) rfl ⟨⟨P, rfl, by simpa [World.setCell] using hlP, fsAt_of_arr ((hP'.out.setCell_ne (by show P ≠ w.heap.size + 1; have := hPge.out; omega) _).setCell_ne (by show P ≠ w.heap.size + 1; have := hPge.out; omega) _) (fun j hj => hcj'.out j (by rw [hFl.out] at hj; exact hj))⟩, (hbl'.out.setCell (by show w.heap.size ≤ w.heap.size + 1; omega) _).setCell (by show w.heap.size ≤ w.heap.size + 1; omega) _⟩

set_option maxRecDepth 8000 in
set_option maxHeartbeats 4000000 in
theorem force_3 {d : Int} (hd : D4 d) (hne : (d == 3) = false) (b cap n L : Nat) (fs : List Nat) (hn : n * dimN d = fs.length) (hL : n * 4 = L) (h0 : 0 < fs.length) (hl : (fs.length : Int) ≤ 10000) (w : World) (hb : b < w.heap.size) (hc : FsAt w b 0 fs) :
    Calls Try.prog 93 #[seqV d b fs.length cap, .int .u8 3] w fun en w' => (∃ P, en = .returned (seqV 3 P L L) ∧ P < w'.heap.size ∧ FsAt w' P 0 (frcL d 3 fs (dimN d) n)) ∧ Below w.heap.size w w' := by
  have hm2 : 2 ≤ dimN d := by rcases dimN_cases d with h | h | h <;> omega
  have hn1 : n ≤ fs.length := by have := Nat.mul_le_mul_left n hm2; omega
  have hS0 : SeqW d b n fs w → True := fun _ => trivial
  have hlen := Lib.hid (fun w' (hbw : Below w.heap.size w w') => length_any hd b fs.length cap (by omega) w')
  rw [← hn, Nat.mul_div_cancel _ (by omega : 0 < dimN d), hn] at hlen
  have hdim := Lib.hid (fun w => dim_any (d := 3) (by unfold D4; omega) w)
  rw [show dimN 3 = 4 from rfl] at hdim
  have hget := Lib.hid (fun k w' (hbw : Below w.heap.size w w') (hk : k < n) => get_any hd b cap k (k * dimN d) fs rfl (by rw [← hn, ← Nat.succ_mul]; exact Nat.mul_le_mul_right _ hk) (by omega) w' (Nat.lt_of_lt_of_le hb hbw.size) (hc.below hbw hb))
  have hLi : (L : Int) ≤ 1000000 := by omega
  have hmk := make_f64 L hLi
  have hmul : (4 : Int) * (n : Int) = (L : Int) := by omega
  have h0' : ((fs.length : Int) == 0) = false := by rw [beq_eq_false_iff_ne]; omega
  have hn6 : (n : Int) ≤ 10000 := by omega
  have hFl := Lib.hid (frcL_length (dd := 3) (by unfold D4; omega) d fs (dimN d) n)
  unfold seqV coV at *
  clear hc hS0
  go_enter Try.func93, Try.ntmps93
  go_wp2_with (first | (go_at_call 135; refine (hlen.out _ (by repeat (first | exact Below.refl _ _ | (refine below_gr' ?_ (by first | omega | (simp [go_sem] <;> omega))) | (refine Below.alloc ?_ (by first | omega | (simp [go_sem] <;> omega)) _) | refine Below.drew ?_ | (refine Below.setCell ?_ (by first | omega | (simp [go_sem] <;> omega)) _)))).mono ?_; rintro e w' ⟨rfl, hq⟩; obtain ⟨q1, rfl⟩ := gr_of_below hq; clear hq) | (go_at_call 133; refine (hdim.out _).mono ?_; rintro e w' ⟨rfl, hq⟩; obtain ⟨q2, rfl⟩ := gr_of_below hq; clear hq))
  generalize hPe0 : w.heap.size + 1 + 1 + (rthen q1 q2).os.size = P
  have hPge : Hid (w.heap.size + 1 + 1 ≤ P) := Lib.hid (by omega)
  have hPe := Lib.hid hPe0
  clear hPe0
  go_loopw [8] (fun i wr => ∃ (k : Nat) (c : Array Value), k ≤ n ∧ i = .int .i64 k ∧ Below w.heap.size w wr ∧ Blk wr w.heap.size #[.int .u8 d, .slice (some ⟨b, 0, none⟩) fs.length cap] ∧ Blk wr (w.heap.size + 1) #[.int .u8 0, .slice none 0 0] ∧ Blk wr P c ∧ c.size = L ∧ ∀ j, j < k * 4 → c[j]? = some (.float .f64 ((frcL d 3 fs (dimN d) n)[j]?.getD 0))) (fun i _ => n - (intOf i).toNat)
  case atStart =>
    refine ⟨0, Array.replicate L (.float .f64 0), Nat.zero_le _, rfl, (by repeat (first | exact Below.refl _ _ | (refine below_gr' ?_ (by first | omega | (simp [go_sem] <;> omega))) | (refine Below.alloc ?_ (by first | omega | (simp [go_sem] <;> omega)) _) | refine Below.drew ?_ | (refine Below.setCell ?_ (by first | omega | (simp [go_sem] <;> omega)) _))), (((Blk.new _ _ _).alloc _).gr _).alloc _, ((Blk.new' _ _ _ _ (by simp)).gr _).alloc _, Blk.new' _ _ _ _ (by rw [← hPe.out]; simp [go_sem]), by simp, fun j hj => absurd hj (by omega)⟩
  case round =>
    obtain ⟨k, c, hk, rfl, hbl, hS, hR, hP, hcs, hcj⟩ := hrel
    have hbl' := Lib.hid hbl
    have hS' := Lib.hid hS
    have hR' := Lib.hid hR
    have hP' := Lib.hid hP
    have hcj' := Lib.hid hcj
    have hcS := hS.cell
    have hlS := hS.lt
    have hcP := hP.cell
    have hfP := hP.frozen
    have hlP := hP.lt
    clear hS hP hcj
    by_cases hlt : k < n
    · have hG := Lib.hid (hget.out k wr hbl hlt)
      have f0 := frcL_at (dd := 3) (by unfold D4; omega) d fs (dimN d) n k 0 hlt (by show 0 < 4; omega)
      have f1 := frcL_at (dd := 3) (by unfold D4; omega) d fs (dimN d) n k 1 hlt (by show 1 < 4; omega)
      have f2 := frcL_at (dd := 3) (by unfold D4; omega) d fs (dimN d) n k 2 hlt (by show 2 < 4; omega)
      have f3 := frcL_at (dd := 3) (by unfold D4; omega) d fs (dimN d) n k 3 hlt (by show 3 < 4; omega)
      obtain ⟨a, ha⟩ : ∃ a, a = k * 4 := ⟨_, rfl⟩
      have haL : a + 4 ≤ L := by omega
      have ha' : (4 : Int) * (k : Int) = (a : Int) := by omega
      have hn1' : ∀ t, (P = wr.heap.size + t) = False := fun t => by simp; omega
      have hn2' : ∀ t, (wr.heap.size + t = P) = False := fun t => by simp; omega
      simp only [show dimN 3 = 4 from rfl, ← ha, numsOf, plc, Nat.add_zero] at f0 f1 f2 f3
      generalize fs[k * dimN d]?.getD 0 = x at *
      generalize fs[k * dimN d + 1]?.getD 0 = y at *
      generalize fz d fs (k * dimN d) = z at *
      generalize fm d fs (k * dimN d) = mm at *
      simp at f0 f1 f2 f3
      obtain ⟨u0, hu0⟩ : ∃ u, c[a]? = some u := ⟨_, Array.getElem?_eq_getElem (by omega)⟩
      have hx0 : wr.cell? ⟨P, a, none⟩ = some u0 := by rw [hcP]; exact hu0
      obtain ⟨u1, hu1⟩ : ∃ u, c[a + 1]? = some u := ⟨_, Array.getElem?_eq_getElem (by omega)⟩
      have hx1 : wr.cell? ⟨P, a + 1, none⟩ = some u1 := by rw [hcP]; exact hu1
      obtain ⟨u2, hu2⟩ : ∃ u, c[a + 2]? = some u := ⟨_, Array.getElem?_eq_getElem (by omega)⟩
      have hx2 : wr.cell? ⟨P, a + 2, none⟩ = some u2 := by rw [hcP]; exact hu2
      obtain ⟨u3, hu3⟩ : ∃ u, c[a + 3]? = some u := ⟨_, Array.getElem?_eq_getElem (by omega)⟩
      have hx3 : wr.cell? ⟨P, a + 3, none⟩ = some u3 := by rw [hcP]; exact hu3
      have hf' := Lib.hid (And.intro f0 (And.intro f1 (And.intro f2 f3)))
      have ha2 := Lib.hid ha
      clear hR hbl f0 f1 f2 f3 ha
      go_wp2_with (go_at_call 91; refine (hG.out).mono ?_; rintro e w' ⟨rfl, hq⟩; obtain ⟨q, rfl⟩ := gr_of_below hq; clear hq)
      go_roundw
      case rel =>
        refine ⟨k + 1, ((((c).setIfInBounds a (.float .f64 x)).setIfInBounds (a + 1) (.float .f64 y)).setIfInBounds (a + 2) (.float .f64 z)).setIfInBounds (a + 3) (.float .f64 mm), by omega, by go_num, ?_, (((((hS'.out.setCell_ne (by show w.heap.size ≠ P; have := hPge.out; omega) _).setCell_ne (by show w.heap.size ≠ P; have := hPge.out; omega) _).setCell_ne (by show w.heap.size ≠ P; have := hPge.out; omega) _).setCell_ne (by show w.heap.size ≠ P; have := hPge.out; omega) _).gr q).alloc _, (((((hR'.out.setCell_ne (by show w.heap.size + 1 ≠ P; have := hPge.out; omega) _).setCell_ne (by show w.heap.size + 1 ≠ P; have := hPge.out; omega) _).setCell_ne (by show w.heap.size + 1 ≠ P; have := hPge.out; omega) _).setCell_ne (by show w.heap.size + 1 ≠ P; have := hPge.out; omega) _).gr q).alloc _, (((((hP'.out.setCell a _).setCell (a + 1) _).setCell (a + 2) _).setCell (a + 3) _).gr q).alloc _, by simp [hcs], fun j hj => ?_⟩
        · have h1 := hbl'.out
          have h2 := h1.size
          have h3 := hPge.out
          repeat (first | exact h1 | (refine Below.alloc ?_ (by first | omega | (simp [go_sem, World.setCell] <;> omega)) _) | (refine below_gr' ?_ (by first | omega | (simp [go_sem, World.setCell] <;> omega))) | (refine Below.setCell ?_ (by show w.heap.size ≤ P; omega) _))
        · have ha3 := ha2.out
          rcases Nat.lt_or_ge j a with h | h
          · rw [Array.getElem?_setIfInBounds_ne (by omega), Array.getElem?_setIfInBounds_ne (by omega), Array.getElem?_setIfInBounds_ne (by omega), Array.getElem?_setIfInBounds_ne (by omega)]
            exact hcj'.out j (by omega)
          · have hj3 : j = a ∨ j = a + 1 ∨ j = a + 2 ∨ j = a + 3 := by omega
            obtain ⟨f0, f1, f2, f3⟩ := hf'.out
            have s0 : a < c.size := by omega
            have s1 : a + 1 < c.size := by omega
            have s2 : a + 2 < c.size := by omega
            have s3 : a + 3 < c.size := by omega
            rcases hj3 with rfl | rfl | rfl | rfl
            · rw [f0]; simp [Array.getElem?_setIfInBounds, s0, s1, s2, s3]
            · rw [f1]; simp [Array.getElem?_setIfInBounds, s0, s1, s2, s3]
            · rw [f2]; simp [Array.getElem?_setIfInBounds, s0, s1, s2, s3]
            · rw [f3]; simp [Array.getElem?_setIfInBounds, s0, s1, s2, s3]
      case measure => simp [intOf]; omega
    · have hkn : k = n := by omega
      subst hkn
      have hcR := hR.cell
      have hfR := hR.frozen
      have hlR := hR.lt
      clear hR hbl
      go_wp2
      refine bodyPost_ret (v := .agg #[.int .u8 3, .slice (some ⟨P, 0, none⟩) L L]) (by simp [results, Try.results93, go_sem, hcR]) rfl ⟨⟨P, rfl, by simpa [World.setCell] using hlP, fsAt_of_arr ((hP'.out.setCell_ne (by show P ≠ w.heap.size + 1; have := hPge.out; omega) _).setCell_ne (by show P ≠ w.heap.size + 1; have := hPge.out; omega) _) (fun j hj => hcj'.out j (by rw [hFl.out] at hj; exact hj))⟩, (hbl'.out.setCell (by show w.heap.size ≤ w.heap.size + 1; omega) _).setCell (by show w.heap.size ≤ w.heap.size + 1; omega) _⟩

theorem take_two (l : List Nat) (h : 2 ≤ l.length) : l.take 2 = [l[0]?.getD 0, l[1]?.getD 0] := by
  match l, h with
  | a :: b :: _, _ => rfl
theorem take_three (l : List Nat) (h : 3 ≤ l.length) : l.take 3 = [l[0]?.getD 0, l[1]?.getD 0, l[2]?.getD 0] := by
  match l, h with
  | a :: b :: c :: _, _ => rfl
theorem take_four (l : List Nat) (h : 4 ≤ l.length) : l.take 4 = [l[0]?.getD 0, l[1]?.getD 0, l[2]?.getD 0, l[3]?.getD 0] := by
  match l, h with
  | a :: b :: c :: d :: _, _ => rfl

theorem numsOf_same {d : Int} (hd : D4 d) (fs : List Nat) (j : Nat) (h : j + dimN d ≤ fs.length) : numsOf d (plc d fs j) = (fs.drop j).take (dimN d) := by
  rcases hd with rfl | rfl | rfl | rfl
  · rw [show dimN 0 = 2 from rfl] at *
    rw [take_two _ (by rw [List.length_drop]; omega)]
    simp [numsOf, plc, List.getElem?_drop]
  · rw [show dimN 1 = 3 from rfl] at *
    rw [take_three _ (by rw [List.length_drop]; omega)]
    simp [numsOf, plc, fz, List.getElem?_drop]
  · rw [show dimN 2 = 3 from rfl] at *
    rw [take_three _ (by rw [List.length_drop]; omega)]
    simp [numsOf, plc, fm, List.getElem?_drop]
  · rw [show dimN 3 = 4 from rfl] at *
    rw [take_four _ (by rw [List.length_drop]; omega)]
    simp [numsOf, plc, fz, fm, List.getElem?_drop]

theorem frcL_same {d : Int} (hd : D4 d) (fs : List Nat) : ∀ k, k * dimN d ≤ fs.length → frcL d d fs (dimN d) k = fs.take (k * dimN d)
  | 0, _ => by simp [frcL]
  | k + 1, h => by
    rw [Nat.succ_mul] at h
    rw [frcL, frcL_same hd fs k (by omega), numsOf_same hd fs _ h, Nat.succ_mul, List.take_add]

set_option maxHeartbeats 1000000 in
theorem force_same {d : Int} (b n cap : Nat) (w : World) :
    Calls Try.prog 93 #[seqV d b n cap, .int .u8 d] w fun en w' => en = .returned (seqV d b n cap) ∧ Below w.heap.size w w' := by
  have he : (d == d) = true := by simp
  unfold seqV
  go_enter Try.func93, Try.ntmps93
  go_wp2
  exact bodyPost_ret (v := .agg #[.int .u8 d, .slice (some ⟨b, 0, none⟩) n cap]) (by simp [results, Try.results93, go_sem]) rfl ⟨rfl, (by repeat (first | exact Below.refl _ _ | (refine below_gr' ?_ (by first | omega | (simp [go_sem] <;> omega))) | (refine Below.alloc ?_ (by first | omega | (simp [go_sem] <;> omega)) _) | refine Below.drew ?_ | (refine Below.setCell ?_ (by first | omega | (simp [go_sem] <;> omega)) _)))⟩

set_option maxHeartbeats 1000000 in
theorem force_none {d dd : Int} (hne : (d == dd) = false) (b cap : Nat) (w : World) :
    Calls Try.prog 93 #[seqV d b 0 cap, .int .u8 dd] w fun en w' => en = .returned (.agg #[.int .u8 dd, .slice none 0 0]) ∧ Below w.heap.size w w' := by
  unfold seqV
  go_enter Try.func93, Try.ntmps93
  go_wp2
  exact bodyPost_ret (v := .agg #[.int .u8 dd, .slice none 0 0]) (by simp [results, Try.results93, go_sem]) rfl ⟨rfl, (by repeat (first | exact Below.refl _ _ | (refine below_gr' ?_ (by first | omega | (simp [go_sem] <;> omega))) | (refine Below.alloc ?_ (by first | omega | (simp [go_sem] <;> omega)) _) | refine Below.drew ?_ | (refine Below.setCell ?_ (by first | omega | (simp [go_sem] <;> omega)) _)))⟩

/-- The numbers behind a slice that begins with its block, nil or not. -/
def Fs0 (w : World) (ao : Option Addr) (fs : List Nat) : Prop := 0 < fs.length → ∃ b, ao = some ⟨b, 0, none⟩ ∧ b < w.heap.size ∧ FsAt w b 0 fs

/-- A sequence brought to another type. -/
theorem force_any {d dd : Int} (hd : D4 d) (hdd : D4 dd) (b cap n : Nat) (fs : List Nat) (hn : n * dimN d = fs.length) (hl : (fs.length : Int) ≤ 10000) (w : World) (hb : b < w.heap.size) (hc : FsAt w b 0 fs) :
    Calls Try.prog 93 #[seqV d b fs.length cap, .int .u8 dd] w fun en w' => (∃ ao c2, en = .returned (.agg #[.int .u8 dd, .slice ao (n * dimN dd) c2]) ∧ Fs0 w' ao (frcL d dd fs (dimN d) n)) ∧ Below w.heap.size w w' := by
  by_cases hne : d = dd
  · subst hne
    refine (force_same b fs.length cap w).mono ?_
    rintro en w' ⟨rfl, hq⟩
    refine ⟨⟨some ⟨b, 0, none⟩, cap, by rw [hn]; rfl, ?_⟩, hq⟩
    rw [frcL_same hd fs n (by omega), hn, List.take_length]
    exact fun _ => ⟨b, rfl, Nat.lt_of_lt_of_le hb hq.size, hc.below hq hb⟩
  · have hne' : (d == dd) = false := by rw [beq_eq_false_iff_ne]; exact hne
    rcases Nat.eq_zero_or_pos fs.length with h0 | h0
    · have hn0 : n = 0 := by
        rcases Nat.eq_zero_or_pos n with h | h
        · exact h
        · have h2 : 0 < dimN d := by rcases dimN_cases d with h | h | h <;> omega
          have := Nat.mul_pos h h2; omega
      subst hn0
      have hz : fs = [] := List.eq_nil_of_length_eq_zero h0
      subst hz
      refine (force_none hne' b cap w).mono ?_
      rintro en w' ⟨rfl, hq⟩
      exact ⟨⟨none, 0, by simp, fun h => absurd h (by simp [frcL])⟩, hq⟩
    · have key : Calls Try.prog 93 #[seqV d b fs.length cap, .int .u8 dd] w fun en w' => (∃ P, en = .returned (seqV dd P (n * dimN dd) (n * dimN dd)) ∧ P < w'.heap.size ∧ FsAt w' P 0 (frcL d dd fs (dimN d) n)) ∧ Below w.heap.size w w' := by
        rcases hdd with rfl | rfl | rfl | rfl
        · exact force_0 hd hne' b cap n _ fs hn rfl h0 hl w hb hc
        · exact force_1 hd hne' b cap n _ fs hn rfl h0 hl w hb hc
        · exact force_2 hd hne' b cap n _ fs hn rfl h0 hl w hb hc
        · exact force_3 hd hne' b cap n _ fs hn rfl h0 hl w hb hc
      refine key.mono ?_
      rintro en w' ⟨⟨P, rfl, h1, h2⟩, hq⟩
      exact ⟨⟨some ⟨P, 0, none⟩, _, rfl, fun _ => ⟨P, rfl, h1, h2⟩⟩, hq⟩
end Go.Proofs.Ytpphfoggjejpiaa
