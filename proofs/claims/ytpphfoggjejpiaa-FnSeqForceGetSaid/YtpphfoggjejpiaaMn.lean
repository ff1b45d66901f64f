/-
  The walk over the law FnSeqForceGet. Conditions: as each theorem states them.
-/
import Derived.Test.YtpphfoggjejpiaaMm
namespace Go.Proofs.Ytpphfoggjejpiaa
open Go.RowKit Fl Go.Sort

/-- A place's numbers under a type. -/
def fZ (dd : Int) (z : Nat) : Nat := if dd = 1 ∨ dd = 3 then z else 0
def fM (dd : Int) (m : Nat) : Nat := if dd = 2 ∨ dd = 3 then m else 0

theorem forced_place {e dd : Int} (hdd : D4 dd) (T : List Nat) (m n i : Nat) (hi : i < n) :
    (frcL e dd T m n)[i * dimN dd]?.getD 0 = (plc e T (i * m)).x ∧ (frcL e dd T m n)[i * dimN dd + 1]?.getD 0 = (plc e T (i * m)).y ∧
    fz dd (frcL e dd T m n) (i * dimN dd) = fZ dd (plc e T (i * m)).z ∧ fm dd (frcL e dd T m n) (i * dimN dd) = fM dd (plc e T (i * m)).m := by
  have h := frcL_at hdd e T m n i
  generalize frcL e dd T m n = F at *
  generalize plc e T (i * m) = q at *
  rcases hdd with rfl | rfl | rfl | rfl
  · have h0 := h 0 hi (by decide); have h1 := h 1 hi (by decide)
    rw [Nat.add_zero] at h0
    simp [h0, h1, fz, fm, fZ, fM, numsOf]
  · have h0 := h 0 hi (by decide); have h1 := h 1 hi (by decide); have h2 := h 2 hi (by decide)
    rw [Nat.add_zero] at h0
    simp [h0, h1, h2, fz, fm, fZ, fM, numsOf]
  · have h0 := h 0 hi (by decide); have h1 := h 1 hi (by decide); have h2 := h 2 hi (by decide)
    rw [Nat.add_zero] at h0
    simp [h0, h1, h2, fz, fm, fZ, fM, numsOf]
  · have h0 := h 0 hi (by decide); have h1 := h 1 hi (by decide); have h2 := h 2 hi (by decide); have h3 := h 3 hi (by decide)
    rw [Nat.add_zero] at h0
    simp [h0, h1, h2, h3, fz, fm, fZ, fM, numsOf]

set_option maxHeartbeats 1000000 in
theorem sf_zz (kind dim : Int) (ao : Option Addr) (n nc : Nat) (ko : Option Addr) (k kc : Nat) (dd i : Int) (hz : (!decide ((2147483647 : Int) < (n : Int)) && !decide ((2147483647 : Int) < (k : Int))) = false) (w : World) :
    Calls Try.prog 10 #[.agg #[.int .i64 kind, .int .i64 dim, .slice ao n nc, .slice ko k kc], .int .i64 dd, .int .i64 i] w fun e w' => e = .returned (.bool true) ∧ Below w.heap.size w w' := by
  have h1 := Lib.hid (fun w => zzFits_any kind dim ao n nc ko k kc w)
  rw [hz] at h1
  clear hz
  go_enter Try.func10, Try.ntmps10
  go_wp2_with (go_at_call 40; refine (h1.out _).mono ?_; rintro e w' ⟨rfl, hq⟩; obtain ⟨q0, rfl⟩ := gr_of_below hq; clear hq)
  go_ret
  exact ⟨rfl, (by repeat (first | exact Below.refl _ _ | (refine below_gr' ?_ (by first | omega | (simp [go_sem] <;> omega))) | (refine Below.alloc ?_ (by first | omega | (simp [go_sem] <;> omega)) _) | refine Below.drew ?_ | (refine Below.setCell ?_ (by first | omega | (simp [go_sem] <;> omega)) _)))⟩

set_option maxHeartbeats 1000000 in
theorem sf_no (kind dim : Int) (ao : Option Addr) (n nc : Nat) (ko : Option Addr) (k kc : Nat) (dd i : Int) (hz : (!decide ((2147483647 : Int) < (n : Int)) && !decide ((2147483647 : Int) < (k : Int))) = true) (w : World)
    (hg : ∀ w', Below w.heap.size w w' → Calls Try.prog 41 #[.agg #[.int .i64 kind, .int .i64 dim, .slice ao n nc, .slice ko k kc]] w' fun e w'' => e = .returned noPlaces ∧ Below w'.heap.size w' w'') :
    Calls Try.prog 10 #[.agg #[.int .i64 kind, .int .i64 dim, .slice ao n nc, .slice ko k kc], .int .i64 dd, .int .i64 i] w fun e w' => e = .returned (.bool true) ∧ Below w.heap.size w w' := by
  have h1 := Lib.hid (fun w => zzFits_any kind dim ao n nc ko k kc w)
  rw [hz] at h1
  have hg' := Lib.hid hg
  clear hz hg
  unfold noPlaces at hg'
  go_enter Try.func10, Try.ntmps10
  go_wp2_with (first | (go_at_call 40; refine (h1.out _).mono ?_; rintro e w' ⟨rfl, hq⟩; obtain ⟨q0, rfl⟩ := gr_of_below hq; clear hq) | (go_at_call 41; refine (hg'.out _ (by repeat (first | exact Below.refl _ _ | (refine below_gr' ?_ (by first | omega | (simp [go_sem] <;> omega))) | (refine Below.alloc ?_ (by first | omega | (simp [go_sem] <;> omega)) _) | refine Below.drew ?_ | (refine Below.setCell ?_ (by first | omega | (simp [go_sem] <;> omega)) _)))).mono ?_; rintro e w' ⟨rfl, hq⟩; obtain ⟨q1, rfl⟩ := gr_of_below hq; clear hq))
  go_ret
  exact ⟨rfl, (by repeat (first | exact Below.refl _ _ | (refine below_gr' ?_ (by first | omega | (simp [go_sem] <;> omega))) | (refine Below.alloc ?_ (by first | omega | (simp [go_sem] <;> omega)) _) | refine Below.drew ?_ | (refine Below.setCell ?_ (by first | omega | (simp [go_sem] <;> omega)) _)))⟩

set_option maxHeartbeats 1000000 in
theorem sf_out (kind dim : Int) (ao : Option Addr) (n nc : Nat) (ko : Option Addr) (k kc : Nat) (dd i : Int) (hz : (!decide ((2147483647 : Int) < (n : Int)) && !decide ((2147483647 : Int) < (k : Int))) = true) (w : World) (qs : List Q4)
    (hg : ∀ w', Below w.heap.size w w' → Calls Try.prog 41 #[.agg #[.int .i64 kind, .int .i64 dim, .slice ao n nc, .slice ko k kc]] w' fun e w'' => (∃ v, e = .returned (.tuple #[v, .bool true]) ∧ QsSl w'' v qs) ∧ Below w'.heap.size w' w'')
    (hout : dd < 0 ∨ 3 < dd ∨ i < 0 ∨ (qs.length : Int) ≤ i) :
    Calls Try.prog 10 #[.agg #[.int .i64 kind, .int .i64 dim, .slice ao n nc, .slice ko k kc], .int .i64 dd, .int .i64 i] w fun e w' => e = .returned (.bool true) ∧ Below w.heap.size w w' := by
  have h1 := Lib.hid (fun w => zzFits_any kind dim ao n nc ko k kc w)
  rw [hz] at h1
  have hg' : Hid (∀ w', Below w.heap.size w w' → Calls Try.prog 41 #[.agg #[.int .i64 kind, .int .i64 dim, .slice ao n nc, .slice ko k kc]] w' fun e w'' => (∃ ao c, e = .returned (.tuple #[.slice ao qs.length c, .bool true])) ∧ Below w'.heap.size w' w'') := Lib.hid (fun w' hb => (hg w' hb).mono (by
    rintro e w'' ⟨⟨v, rfl, hv⟩, hq⟩
    rcases hv with ⟨rfl, ao, c, rfl⟩ | ⟨g, cap, rfl, _⟩
    · exact ⟨⟨_, _, rfl⟩, hq⟩
    · exact ⟨⟨_, _, rfl⟩, hq⟩))
  generalize qs.length = L at *
  clear hz hg
  have hcase : (dd < 0) ∨ (¬ dd < 0 ∧ 3 < dd) ∨ (¬ dd < 0 ∧ ¬ 3 < dd ∧ i < 0) ∨ (¬ dd < 0 ∧ ¬ 3 < dd ∧ ¬ i < 0 ∧ (L : Int) ≤ i) := by omega
  clear hout
  rcases hcase with h | ⟨h, h'⟩ | ⟨h, h', h''⟩ | ⟨h, h', h'', h'''⟩
  all_goals
    go_enter Try.func10, Try.ntmps10
    go_wp2_with (first | (go_at_call 40; refine (h1.out _).mono ?_; rintro e w' ⟨rfl, hq⟩; obtain ⟨q0, rfl⟩ := gr_of_below hq; clear hq) | (go_at_call 41; refine (hg'.out _ (by repeat (first | exact Below.refl _ _ | (refine below_gr' ?_ (by first | omega | (simp [go_sem] <;> omega))) | (refine Below.alloc ?_ (by first | omega | (simp [go_sem] <;> omega)) _) | refine Below.drew ?_ | (refine Below.setCell ?_ (by first | omega | (simp [go_sem] <;> omega)) _)))).mono ?_; rintro e w' ⟨⟨ao2, c2, rfl⟩, hq⟩; obtain ⟨q1, rfl⟩ := gr_of_below hq; clear hq))
    go_ret
    exact ⟨rfl, (by repeat (first | exact Below.refl _ _ | (refine below_gr' ?_ (by first | omega | (simp [go_sem] <;> omega))) | (refine Below.alloc ?_ (by first | omega | (simp [go_sem] <;> omega)) _) | refine Below.drew ?_ | (refine Below.setCell ?_ (by first | omega | (simp [go_sem] <;> omega)) _)))⟩

set_option maxHeartbeats 2000000 in
theorem sf_main (kind dim : Int) (ao : Option Addr) (n nc : Nat) (ko : Option Addr) (k kc : Nat) (dd : Int) (hdd : D4 dd) (i : Nat) (hz : (!decide ((2147483647 : Int) < (n : Int)) && !decide ((2147483647 : Int) < (k : Int))) = true) (w : World) (qs : List Q4) (q : Q4) (hq : qs[i]? = some q) (L : Nat) (F : List Nat)
    (hg : ∀ w', Below w.heap.size w w' → Calls Try.prog 41 #[.agg #[.int .i64 kind, .int .i64 dim, .slice ao n nc, .slice ko k kc]] w' fun e w'' => (∃ v, e = .returned (.tuple #[v, .bool true]) ∧ QsSl w'' v qs) ∧ Below w'.heap.size w' w'')
    (hf : ∀ w', Below w.heap.size w w' → Calls Try.prog 43 #[.agg #[.int .i64 kind, .int .i64 dim, .slice ao n nc, .slice ko k kc], .int .i64 dd] w' fun en w'' => (∃ v, en = .returned (.agg #[.int .i64 2, .int .i64 dd, v, .slice none 0 0]) ∧ SlF F v w'') ∧ Below w'.heap.size w' w'')
    (hge : ∀ ao2 c2 w', FsSl w' ao2 F → Calls Try.prog 42 #[.agg #[.int .i64 2, .int .i64 dd, .slice ao2 F.length c2, .slice none 0 0], .int .i64 i] w' fun en w'' => en = .returned (.tuple #[.agg #[.float .f64 q.x, .float .f64 q.y, .float .f64 (fZ dd q.z), .float .f64 (fM dd q.m), .int .i64 dd], .bool true]) ∧ Below w'.heap.size w' w'') :
    Calls Try.prog 10 #[.agg #[.int .i64 kind, .int .i64 dim, .slice ao n nc, .slice ko k kc], .int .i64 dd, .int .i64 i] w fun e w' => e = .returned (.bool true) ∧ Below w.heap.size w w' := by
  have h1 := Lib.hid (fun w => zzFits_any kind dim ao n nc ko k kc w)
  rw [hz] at h1
  have hi : i < qs.length := (List.getElem?_eq_some_iff.1 hq).1
  obtain ⟨x, y, z, mm⟩ := q
  have hg' : Hid (∀ w', Below w.heap.size w w' → Calls Try.prog 41 #[.agg #[.int .i64 kind, .int .i64 dim, .slice ao n nc, .slice ko k kc]] w' fun e w'' => (∃ g c, e = .returned (.tuple #[.slice (some ⟨g, 0, none⟩) qs.length c, .bool true]) ∧ g < w''.heap.size ∧ w''.cell? ⟨g, i * 4, none⟩ = some (.float .f64 x) ∧ w''.cell? ⟨g, i * 4 + 1, none⟩ = some (.float .f64 y) ∧ w''.cell? ⟨g, i * 4 + 2, none⟩ = some (.float .f64 z) ∧ w''.cell? ⟨g, i * 4 + 3, none⟩ = some (.float .f64 mm)) ∧ Below w'.heap.size w' w'') := Lib.hid (fun w' hb => (hg w' hb).mono (by
    rintro e w'' ⟨⟨v, rfl, hv⟩, hq'⟩
    rcases hv with ⟨rfl, _⟩ | ⟨g, cap, rfl, h2, h3⟩
    · simp at hi
    · obtain ⟨c0, c1, c2, c3⟩ := h3 i _ hq
      exact ⟨⟨g, cap, rfl, h2, c0, c1, c2, c3⟩, hq'⟩))
  have hf' := Lib.hid hf
  have hge' := Lib.hid hge
  have hcd := Lib.hid (fun x y z m d w => gCoords_eq x y z m d w)
  clear hq hz hg hf hge
  generalize qs.length = L at *
  rcases hdd with rfl | rfl | rfl | rfl
  all_goals
    simp [fZ, fM] at hge'
    go_enter Try.func10, Try.ntmps10
    go_wp2_with (first | (go_at_call 40; refine (h1.out _).mono ?_; rintro e w' ⟨rfl, hq⟩; obtain ⟨q0, rfl⟩ := gr_of_below hq; clear hq) | (go_at_call 41; refine (hg'.out _ (by repeat (first | exact Below.refl _ _ | (refine below_gr' ?_ (by first | omega | (simp [go_sem] <;> omega))) | (refine Below.alloc ?_ (by first | omega | (simp [go_sem] <;> omega)) _) | refine Below.drew ?_ | (refine Below.setCell ?_ (by first | omega | (simp [go_sem] <;> omega)) _)))).mono ?_; rintro e w' ⟨⟨g, c2, rfl, hgl, c0, c1, c2', c3⟩, hq⟩; obtain ⟨q1, rfl⟩ := gr_of_below hq; simp only [gr_gr] at hgl c0 c1 c2' c3; clear hq) | (go_at_call 43; refine (hf'.out _ (by repeat (first | exact Below.refl _ _ | (refine below_gr' ?_ (by first | omega | (simp [go_sem] <;> omega))) | (refine Below.alloc ?_ (by first | omega | (simp [go_sem] <;> omega)) _) | refine Below.drew ?_ | (refine Below.setCell ?_ (by first | omega | (simp [go_sem] <;> omega)) _)))).mono ?_; rintro e w' ⟨⟨v, rfl, ao3, c5, rfl, hf3, _⟩, hq⟩; obtain ⟨q2, rfl⟩ := gr_of_below hq; (try simp only [gr_gr] at hf3); have hf3' := Lib.hid hf3; clear hq hf3) | (go_at_call 42; refine (hge'.out _ _ _ hf3'.out).mono ?_; rintro e w' ⟨rfl, hq⟩; obtain ⟨q3, rfl⟩ := gr_of_below hq; clear hq) | (go_at_call 44; refine (hcd.out _ _ _ _ _ _).mono ?_; rintro e w' ⟨rfl, hq⟩; obtain ⟨q4, rfl⟩ := gr_of_below hq; clear hq))
  all_goals
    go_ret
    exact ⟨rfl, (by repeat (first | exact Below.refl _ _ | (refine below_gr' ?_ (by first | omega | (simp [go_sem] <;> omega))) | (refine Below.alloc ?_ (by first | omega | (simp [go_sem] <;> omega)) _) | refine Below.drew ?_ | (refine Below.setCell ?_ (by first | omega | (simp [go_sem] <;> omega)) _)))⟩
end Go.Proofs.Ytpphfoggjejpiaa
