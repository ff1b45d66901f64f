/-
  The reference's places of a leaf. Conditions: as each theorem states them.
-/
import Derived.Test.YtpphfoggjejpiaaMf
namespace Go.Proofs.Ytpphfoggjejpiaa
open Go.RowKit Fl Go.Sort

/-- A place with all its numbers. -/
structure Q4 where
  x : Nat
  y : Nat
  z : Nat
  m : Nat

def Q4.cells (q : Q4) : List Value := [.float .f64 q.x, .float .f64 q.y, .float .f64 q.z, .float .f64 q.m]
def flatQ : List Q4 → List Value
  | [] => []
  | q :: qs => .float .f64 q.x :: .float .f64 q.y :: .float .f64 q.z :: .float .f64 q.m :: flatQ qs
theorem flatQ_length : ∀ qs : List Q4, (flatQ qs).length = qs.length * 4
  | [] => rfl
  | q :: qs => by simp [flatQ, flatQ_length qs]; omega
theorem flatQ_append : ∀ a b : List Q4, flatQ (a ++ b) = flatQ a ++ flatQ b
  | [], _ => rfl
  | q :: qs, b => by simp [flatQ, flatQ_append qs b]
theorem flatQ_one : ∀ (qs : List Q4), ∀ u ∈ flatQ qs, u.oneCell' = true
  | [], u, h => by cases h
  | q :: qs, u, h => by
    simp only [flatQ, List.mem_cons] at h
    rcases h with rfl | rfl | rfl | rfl | h
    · rfl
    · rfl
    · rfl
    · rfl
    · exact flatQ_one qs u h

theorem place_info : (Try.prog.info? 76).map (fun i => (i.zero, i.size, i.bytes)) = some (some (.agg #[.float .f64 0, .float .f64 0, .float .f64 0, .float .f64 0]), 4, 32) := by kernel_rfl

/-- A slice of the call's own that holds places. -/
def OwnQ (w : World) (base : Nat) (v : Value) (qs : List Q4) : Prop := w.ownsRow base 76 4 v qs.length (flatQ qs)
theorem OwnQ.nil (w : World) (base : Nat) : OwnQ w base (.slice none 0 0) [] := World.ownsRow_nil w base _ 4

theorem wpList_append_q {ops : Array Oper} {rest : List Oper} {o : Oper} {a : Act} {w : World} {Q : Exit → Act → World → Prop} (hgd : o.guard = none) (s x : Operand) (t : TypeId)
    (ho : o.op = .call { callee := .builtin .append, args := #[s, x], argTypes := #[t, t] }) (ht : Try.prog.underlying t = some (.slice 76)) (base : Nat) (v : Value) (qs : List Q4) (hs : a.eval s = v) (hown : OwnQ w base v qs)
    (B c : Nat) (q : Q4) (hx : a.eval x = .slice (some ⟨B, 0, none⟩) 1 c) (hc0 : w.cell? ⟨B, 0, none⟩ = some (.float .f64 q.x)) (hc1 : w.cell? ⟨B, 1, none⟩ = some (.float .f64 q.y)) (hc2 : w.cell? ⟨B, 2, none⟩ = some (.float .f64 q.z)) (hc3 : w.cell? ⟨B, 3, none⟩ = some (.float .f64 q.m)) (hlen : qs.length ≤ 1000000) (hbase : base ≤ w.heap.size)
    (h : ∀ v' w', OwnQ w' base v' (qs ++ [q]) → Below base w w' → wpList Try.prog ops Q rest (a.put o.dst v') w') : wpList Try.prog ops Q (o :: rest) a w := by
  obtain ⟨i, hi, hi'⟩ := Option.map_eq_some_iff.1 place_info
  obtain ⟨hz, hi''⟩ := Prod.mk.inj hi'
  obtain ⟨hsz, hby⟩ := Prod.mk.inj hi''
  refine wpList_append_lies w hgd s x t ho base 76 i _ 4 32 ht hi hz hsz hby rfl (by decide) v qs.length (flatQ qs) hs hown ⟨B, 0, none⟩ 1 c (flatQ [q]) hx rfl ?_ (flatQ_one _) (by decide) (by have : maxLen = 9223372036854775807 := rfl; omega) (by omega) hbase _ rfl ?_
  · intro j u hu
    rw [addr_add]
    match j, hu with
    | 0, hu => simp only [flatQ, List.getElem?_cons_zero, Option.some.injEq] at hu; subst hu; exact hc0
    | 1, hu => simp only [flatQ, List.getElem?_cons_zero, List.getElem?_cons_succ, Option.some.injEq] at hu; subst hu; exact hc1
    | 2, hu => simp only [flatQ, List.getElem?_cons_zero, List.getElem?_cons_succ, Option.some.injEq] at hu; subst hu; exact hc2
    | 3, hu => simp only [flatQ, List.getElem?_cons_zero, List.getElem?_cons_succ, Option.some.injEq] at hu; subst hu; exact hc3
    | j + 4, hu => simp [flatQ] at hu
  · intro g cap w' hown' hgr _ _
    refine h _ w' ?_ ⟨hgr.os, hgr.tape, hgr.output, hgr.size, fun k hk => hgr.block k (by omega) (by
      rcases hown.2 with ⟨rfl, _⟩ | ⟨g, cap, cur, rfl, hbg, _⟩
      · simp [Value.ownBlock]
      · simp [Value.ownBlock]; omega)⟩
    unfold OwnQ
    rw [flatQ_append, List.length_append]
    exact hown'

/-- The place that begins at number j. -/
def plc (e : Int) (fs : List Nat) (j : Nat) : Q4 := ⟨fs[j]?.getD 0, fs[j + 1]?.getD 0, fz e fs j, fm e fs j⟩
def plcs (e : Int) (fs : List Nat) (m : Nat) : Nat → List Q4
  | 0 => []
  | k + 1 => plcs e fs m k ++ [plc e fs (k * m)]
theorem plcs_length (e : Int) (fs : List Nat) (m : Nat) : ∀ k, (plcs e fs m k).length = k
  | 0 => rfl
  | k + 1 => by simp [plcs, plcs_length e fs m k]


set_option maxHeartbeats 4000000 in
theorem places_0 (ao : Option Addr) (cap n : Nat) (fs : List Nat) (hn : n * 2 = fs.length) (hl : (fs.length : Int) ≤ 1000000) (w : World) (hc : FsSl w ao fs) :
    Calls Try.prog 87 #[.slice ao fs.length cap, .int .i64 0] w fun en w' => (∃ v, en = .returned v ∧ OwnQ w' w.heap.size v (plcs 0 fs 2 n)) ∧ Below w.heap.size w w' := by
  have hd : D4 0 := by unfold D4; omega
  have h1 := Lib.hid (fun w => width_any hd w)
  rw [show dimN 0 = 2 from rfl] at h1
  have hc' := Lib.hid hc
  clear hd hc
  go_enter Try.func87, Try.ntmps87
  go_wp2_with (go_at_call 96; refine (h1.out _).mono ?_; rintro e w' ⟨rfl, hq⟩; obtain ⟨q, rfl⟩ := gr_of_below hq; clear hq)
  go_loopw [5, 7] (fun v i wr => ∃ k : Nat, k ≤ n ∧ i = .int .i64 ((k * 2 : Nat) : Int) ∧ OwnQ wr w.heap.size v (plcs 0 fs 2 k) ∧ Below w.heap.size w wr) (fun _ i _ => fs.length + 1 - (intOf i).toNat)
  case atStart => exact ⟨0, Nat.zero_le _, by simp, OwnQ.nil _ _, (by repeat (first | exact Below.refl _ _ | (refine below_gr' ?_ (by first | omega | (simp [go_sem] <;> omega))) | (refine Below.alloc ?_ (by first | omega | (simp [go_sem] <;> omega)) _) | refine Below.drew ?_ | (refine Below.setCell ?_ (by first | omega | (simp [go_sem] <;> omega)) _)))⟩
  case round =>
    obtain ⟨k, hk, rfl, hown, hbl⟩ := hrel
    have hbl' := Lib.hid hbl
    have hsz := Lib.hid hbl.size
    have hown' := Lib.hid hown
    obtain ⟨j, hj⟩ : ∃ j, j = k * 2 := ⟨_, rfl⟩
    have hj2 : Hid ((k + 1) * 2 = j + 2) := Lib.hid (by omega)
    have hpl := Lib.hid (show plcs 0 fs 2 (k + 1) = plcs 0 fs 2 k ++ [⟨fs[j]?.getD 0, fs[j + 1]?.getD 0, 0, 0⟩] by rw [hj]; rfl)
    have hlen := Lib.hid (plcs_length 0 fs 2 k)
    rw [← hj]
    by_cases hlt : k < n
    · have hjl : j + 2 ≤ fs.length := by omega
      obtain ⟨b, off, hao, hb, hfs⟩ := hc'.out (by omega)
      have hfw := hfs.below hbl hb
      have c0 : wr.cell? ⟨b, off + j, none⟩ = some (.float .f64 (fs[j]?.getD 0)) := hfw j (by omega)
      have c1 : wr.cell? ⟨b, off + (j + 1), none⟩ = some (.float .f64 (fs[j + 1]?.getD 0)) := hfw (j + 1) (by omega)
      have hbw : b < wr.heap.size := Nat.lt_of_lt_of_le hb hbl.size
      generalize fs[j]?.getD 0 = x at *
      generalize fs[j + 1]?.getD 0 = y at *
      subst hao
      have hkn := Lib.hid (show k ≤ 1000000 by omega)
      clear hown hbl hfw hfs hj
      go_wp2_with fail
      go_region
      all_goals
        go_wp2_with (at_builtin; refine wpList_append_q rfl _ _ _ rfl (by kernel_rfl) w.heap.size _ _ rfl (World.ownsRow.alloc (World.ownsRow.alloc hown'.out _) _) (wr.heap.size + 1) 1 ⟨x, y, 0, 0⟩ rfl (by simp [go_sem]) (by simp [go_sem]) (by simp [go_sem]) (by simp [go_sem]) (by rw [hlen.out]; exact hkn.out) (by have := hsz.out; simp; omega) ?_; intro v' w1 ho hb1; rw [← hpl.out] at ho; have ho' := Lib.hid ho; have hb2 := Lib.hid hb1; clear ho hb1)
        go_roundw
        case rel => exact ⟨k + 1, by omega, by rw [hj2.out]; go_num, ho'.out, by refine Below.trans ?_ hb2.out; have h1 := hbl'.out; have h2 := h1.size; repeat (first | exact h1 | (refine Below.alloc ?_ (by first | omega | (simp [go_sem] <;> omega)) _) | refine Below.drew ?_ | (refine Below.setCell ?_ (by first | omega | (simp [go_sem] <;> omega)) _))⟩
        case measure => simp [intOf]; omega
    · have hkn : k = n := by omega
      subst hkn
      clear hbl hown
      go_wp2
      go_ret
      exact ⟨⟨_, rfl, hown'.out⟩, hbl'.out⟩

set_option maxHeartbeats 4000000 in
theorem places_1 (ao : Option Addr) (cap n : Nat) (fs : List Nat) (hn : n * 3 = fs.length) (hl : (fs.length : Int) ≤ 1000000) (w : World) (hc : FsSl w ao fs) :
    Calls Try.prog 87 #[.slice ao fs.length cap, .int .i64 1] w fun en w' => (∃ v, en = .returned v ∧ OwnQ w' w.heap.size v (plcs 1 fs 3 n)) ∧ Below w.heap.size w w' := by
  have hd : D4 1 := by unfold D4; omega
  have h1 := Lib.hid (fun w => width_any hd w)
  rw [show dimN 1 = 3 from rfl] at h1
  have hc' := Lib.hid hc
  clear hd hc
  go_enter Try.func87, Try.ntmps87
  go_wp2_with (go_at_call 96; refine (h1.out _).mono ?_; rintro e w' ⟨rfl, hq⟩; obtain ⟨q, rfl⟩ := gr_of_below hq; clear hq)
  go_loopw [5, 7] (fun v i wr => ∃ k : Nat, k ≤ n ∧ i = .int .i64 ((k * 3 : Nat) : Int) ∧ OwnQ wr w.heap.size v (plcs 1 fs 3 k) ∧ Below w.heap.size w wr) (fun _ i _ => fs.length + 1 - (intOf i).toNat)
  case atStart => exact ⟨0, Nat.zero_le _, by simp, OwnQ.nil _ _, (by repeat (first | exact Below.refl _ _ | (refine below_gr' ?_ (by first | omega | (simp [go_sem] <;> omega))) | (refine Below.alloc ?_ (by first | omega | (simp [go_sem] <;> omega)) _) | refine Below.drew ?_ | (refine Below.setCell ?_ (by first | omega | (simp [go_sem] <;> omega)) _)))⟩
  case round =>
    obtain ⟨k, hk, rfl, hown, hbl⟩ := hrel
    have hbl' := Lib.hid hbl
    have hsz := Lib.hid hbl.size
    have hown' := Lib.hid hown
    obtain ⟨j, hj⟩ : ∃ j, j = k * 3 := ⟨_, rfl⟩
    have hj2 : Hid ((k + 1) * 3 = j + 3) := Lib.hid (by omega)
    have hpl := Lib.hid (show plcs 1 fs 3 (k + 1) = plcs 1 fs 3 k ++ [⟨fs[j]?.getD 0, fs[j + 1]?.getD 0, fs[j + 2]?.getD 0, 0⟩] by rw [hj]; rfl)
    have hlen := Lib.hid (plcs_length 1 fs 3 k)
    rw [← hj]
    by_cases hlt : k < n
    · have hjl : j + 3 ≤ fs.length := by omega
      obtain ⟨b, off, hao, hb, hfs⟩ := hc'.out (by omega)
      have hfw := hfs.below hbl hb
      have c0 : wr.cell? ⟨b, off + j, none⟩ = some (.float .f64 (fs[j]?.getD 0)) := hfw j (by omega)
      have c1 : wr.cell? ⟨b, off + (j + 1), none⟩ = some (.float .f64 (fs[j + 1]?.getD 0)) := hfw (j + 1) (by omega)
      have c2 : wr.cell? ⟨b, off + (j + 2), none⟩ = some (.float .f64 (fs[j + 2]?.getD 0)) := hfw (j + 2) (by omega)
      have hbw : b < wr.heap.size := Nat.lt_of_lt_of_le hb hbl.size
      generalize fs[j]?.getD 0 = x at *
      generalize fs[j + 1]?.getD 0 = y at *
      generalize fs[j + 2]?.getD 0 = z at *
      subst hao
      have hkn := Lib.hid (show k ≤ 1000000 by omega)
      clear hown hbl hfw hfs hj
      go_wp2_with fail
      go_region
      all_goals
        go_wp2_with (at_builtin; refine wpList_append_q rfl _ _ _ rfl (by kernel_rfl) w.heap.size _ _ rfl (World.ownsRow.alloc (World.ownsRow.alloc hown'.out _) _) (wr.heap.size + 1) 1 ⟨x, y, z, 0⟩ rfl (by simp [go_sem]) (by simp [go_sem]) (by simp [go_sem]) (by simp [go_sem]) (by rw [hlen.out]; exact hkn.out) (by have := hsz.out; simp; omega) ?_; intro v' w1 ho hb1; rw [← hpl.out] at ho; have ho' := Lib.hid ho; have hb2 := Lib.hid hb1; clear ho hb1)
        go_roundw
        case rel => exact ⟨k + 1, by omega, by rw [hj2.out]; go_num, ho'.out, by refine Below.trans ?_ hb2.out; have h1 := hbl'.out; have h2 := h1.size; repeat (first | exact h1 | (refine Below.alloc ?_ (by first | omega | (simp [go_sem] <;> omega)) _) | refine Below.drew ?_ | (refine Below.setCell ?_ (by first | omega | (simp [go_sem] <;> omega)) _))⟩
        case measure => simp [intOf]; omega
    · have hkn : k = n := by omega
      subst hkn
      clear hbl hown
      go_wp2
      go_ret
      exact ⟨⟨_, rfl, hown'.out⟩, hbl'.out⟩

set_option maxHeartbeats 4000000 in
theorem places_2 (ao : Option Addr) (cap n : Nat) (fs : List Nat) (hn : n * 3 = fs.length) (hl : (fs.length : Int) ≤ 1000000) (w : World) (hc : FsSl w ao fs) :
    Calls Try.prog 87 #[.slice ao fs.length cap, .int .i64 2] w fun en w' => (∃ v, en = .returned v ∧ OwnQ w' w.heap.size v (plcs 2 fs 3 n)) ∧ Below w.heap.size w w' := by
  have hd : D4 2 := by unfold D4; omega
  have h1 := Lib.hid (fun w => width_any hd w)
  rw [show dimN 2 = 3 from rfl] at h1
  have hc' := Lib.hid hc
  clear hd hc
  go_enter Try.func87, Try.ntmps87
  go_wp2_with (go_at_call 96; refine (h1.out _).mono ?_; rintro e w' ⟨rfl, hq⟩; obtain ⟨q, rfl⟩ := gr_of_below hq; clear hq)
  go_loopw [5, 7] (fun v i wr => ∃ k : Nat, k ≤ n ∧ i = .int .i64 ((k * 3 : Nat) : Int) ∧ OwnQ wr w.heap.size v (plcs 2 fs 3 k) ∧ Below w.heap.size w wr) (fun _ i _ => fs.length + 1 - (intOf i).toNat)
  case atStart => exact ⟨0, Nat.zero_le _, by simp, OwnQ.nil _ _, (by repeat (first | exact Below.refl _ _ | (refine below_gr' ?_ (by first | omega | (simp [go_sem] <;> omega))) | (refine Below.alloc ?_ (by first | omega | (simp [go_sem] <;> omega)) _) | refine Below.drew ?_ | (refine Below.setCell ?_ (by first | omega | (simp [go_sem] <;> omega)) _)))⟩
  case round =>
    obtain ⟨k, hk, rfl, hown, hbl⟩ := hrel
    have hbl' := Lib.hid hbl
    have hsz := Lib.hid hbl.size
    have hown' := Lib.hid hown
    obtain ⟨j, hj⟩ : ∃ j, j = k * 3 := ⟨_, rfl⟩
    have hj2 : Hid ((k + 1) * 3 = j + 3) := Lib.hid (by omega)
    have hpl := Lib.hid (show plcs 2 fs 3 (k + 1) = plcs 2 fs 3 k ++ [⟨fs[j]?.getD 0, fs[j + 1]?.getD 0, 0, fs[j + 2]?.getD 0⟩] by rw [hj]; rfl)
    have hlen := Lib.hid (plcs_length 2 fs 3 k)
    rw [← hj]
    by_cases hlt : k < n
    · have hjl : j + 3 ≤ fs.length := by omega
      obtain ⟨b, off, hao, hb, hfs⟩ := hc'.out (by omega)
      have hfw := hfs.below hbl hb
      have c0 : wr.cell? ⟨b, off + j, none⟩ = some (.float .f64 (fs[j]?.getD 0)) := hfw j (by omega)
      have c1 : wr.cell? ⟨b, off + (j + 1), none⟩ = some (.float .f64 (fs[j + 1]?.getD 0)) := hfw (j + 1) (by omega)
      have c2 : wr.cell? ⟨b, off + (j + 2), none⟩ = some (.float .f64 (fs[j + 2]?.getD 0)) := hfw (j + 2) (by omega)
      have hbw : b < wr.heap.size := Nat.lt_of_lt_of_le hb hbl.size
      generalize fs[j]?.getD 0 = x at *
      generalize fs[j + 1]?.getD 0 = y at *
      generalize fs[j + 2]?.getD 0 = z at *
      subst hao
      have hkn := Lib.hid (show k ≤ 1000000 by omega)
      clear hown hbl hfw hfs hj
      go_wp2_with fail
      go_region
      all_goals
        go_wp2_with (at_builtin; refine wpList_append_q rfl _ _ _ rfl (by kernel_rfl) w.heap.size _ _ rfl (World.ownsRow.alloc (World.ownsRow.alloc hown'.out _) _) (wr.heap.size + 1) 1 ⟨x, y, 0, z⟩ rfl (by simp [go_sem]) (by simp [go_sem]) (by simp [go_sem]) (by simp [go_sem]) (by rw [hlen.out]; exact hkn.out) (by have := hsz.out; simp; omega) ?_; intro v' w1 ho hb1; rw [← hpl.out] at ho; have ho' := Lib.hid ho; have hb2 := Lib.hid hb1; clear ho hb1)
        go_roundw
        case rel => exact ⟨k + 1, by omega, by rw [hj2.out]; go_num, ho'.out, by refine Below.trans ?_ hb2.out; have h1 := hbl'.out; have h2 := h1.size; repeat (first | exact h1 | (refine Below.alloc ?_ (by first | omega | (simp [go_sem] <;> omega)) _) | refine Below.drew ?_ | (refine Below.setCell ?_ (by first | omega | (simp [go_sem] <;> omega)) _))⟩
        case measure => simp [intOf]; omega
    · have hkn : k = n := by omega
      subst hkn
      clear hbl hown
      go_wp2
      go_ret
      exact ⟨⟨_, rfl, hown'.out⟩, hbl'.out⟩

set_option maxHeartbeats 4000000 in
theorem places_3 (ao : Option Addr) (cap n : Nat) (fs : List Nat) (hn : n * 4 = fs.length) (hl : (fs.length : Int) ≤ 1000000) (w : World) (hc : FsSl w ao fs) :
    Calls Try.prog 87 #[.slice ao fs.length cap, .int .i64 3] w fun en w' => (∃ v, en = .returned v ∧ OwnQ w' w.heap.size v (plcs 3 fs 4 n)) ∧ Below w.heap.size w w' := by
  have hd : D4 3 := by unfold D4; omega
  have h1 := Lib.hid (fun w => width_any hd w)
  rw [show dimN 3 = 4 from rfl] at h1
  have hc' := Lib.hid hc
  clear hd hc
  go_enter Try.func87, Try.ntmps87
  go_wp2_with (go_at_call 96; refine (h1.out _).mono ?_; rintro e w' ⟨rfl, hq⟩; obtain ⟨q, rfl⟩ := gr_of_below hq; clear hq)
  go_loopw [5, 7] (fun v i wr => ∃ k : Nat, k ≤ n ∧ i = .int .i64 ((k * 4 : Nat) : Int) ∧ OwnQ wr w.heap.size v (plcs 3 fs 4 k) ∧ Below w.heap.size w wr) (fun _ i _ => fs.length + 1 - (intOf i).toNat)
  case atStart => exact ⟨0, Nat.zero_le _, by simp, OwnQ.nil _ _, (by repeat (first | exact Below.refl _ _ | (refine below_gr' ?_ (by first | omega | (simp [go_sem] <;> omega))) | (refine Below.alloc ?_ (by first | omega | (simp [go_sem] <;> omega)) _) | refine Below.drew ?_ | (refine Below.setCell ?_ (by first | omega | (simp [go_sem] <;> omega)) _)))⟩
  case round =>
    obtain ⟨k, hk, rfl, hown, hbl⟩ := hrel
    have hbl' := Lib.hid hbl
    have hsz := Lib.hid hbl.size
    have hown' := Lib.hid hown
    obtain ⟨j, hj⟩ : ∃ j, j = k * 4 := ⟨_, rfl⟩
    have hj2 : Hid ((k + 1) * 4 = j + 4) := Lib.hid (by omega)
    have hpl := Lib.hid (show plcs 3 fs 4 (k + 1) = plcs 3 fs 4 k ++ [⟨fs[j]?.getD 0, fs[j + 1]?.getD 0, fs[j + 2]?.getD 0, fs[j + 3]?.getD 0⟩] by rw [hj]; rfl)
    have hlen := Lib.hid (plcs_length 3 fs 4 k)
    rw [← hj]
    by_cases hlt : k < n
    · have hjl : j + 4 ≤ fs.length := by omega
      obtain ⟨b, off, hao, hb, hfs⟩ := hc'.out (by omega)
      have hfw := hfs.below hbl hb
      have c0 : wr.cell? ⟨b, off + j, none⟩ = some (.float .f64 (fs[j]?.getD 0)) := hfw j (by omega)
      have c1 : wr.cell? ⟨b, off + (j + 1), none⟩ = some (.float .f64 (fs[j + 1]?.getD 0)) := hfw (j + 1) (by omega)
      have c2 : wr.cell? ⟨b, off + (j + 2), none⟩ = some (.float .f64 (fs[j + 2]?.getD 0)) := hfw (j + 2) (by omega)
      have c3 : wr.cell? ⟨b, off + (j + 3), none⟩ = some (.float .f64 (fs[j + 3]?.getD 0)) := hfw (j + 3) (by omega)
      have hbw : b < wr.heap.size := Nat.lt_of_lt_of_le hb hbl.size
      generalize fs[j]?.getD 0 = x at *
      generalize fs[j + 1]?.getD 0 = y at *
      generalize fs[j + 2]?.getD 0 = z at *
      generalize fs[j + 3]?.getD 0 = mm at *
      subst hao
      have hkn := Lib.hid (show k ≤ 1000000 by omega)
      clear hown hbl hfw hfs hj
      go_wp2_with fail
      go_region
      all_goals
        go_wp2_with (at_builtin; refine wpList_append_q rfl _ _ _ rfl (by kernel_rfl) w.heap.size _ _ rfl (World.ownsRow.alloc (World.ownsRow.alloc hown'.out _) _) (wr.heap.size + 1) 1 ⟨x, y, z, mm⟩ rfl (by simp [go_sem]) (by simp [go_sem]) (by simp [go_sem]) (by simp [go_sem]) (by rw [hlen.out]; exact hkn.out) (by have := hsz.out; simp; omega) ?_; intro v' w1 ho hb1; rw [← hpl.out] at ho; have ho' := Lib.hid ho; have hb2 := Lib.hid hb1; clear ho hb1)
        go_roundw
        case rel => exact ⟨k + 1, by omega, by rw [hj2.out]; go_num, ho'.out, by refine Below.trans ?_ hb2.out; have h1 := hbl'.out; have h2 := h1.size; repeat (first | exact h1 | (refine Below.alloc ?_ (by first | omega | (simp [go_sem] <;> omega)) _) | refine Below.drew ?_ | (refine Below.setCell ?_ (by first | omega | (simp [go_sem] <;> omega)) _))⟩
        case measure => simp [intOf]; omega
    · have hkn : k = n := by omega
      subst hkn
      clear hbl hown
      go_wp2
      go_ret
      exact ⟨⟨_, rfl, hown'.out⟩, hbl'.out⟩

theorem places_any {e : Int} (hd : D4 e) (ao : Option Addr) (cap n : Nat) (fs : List Nat) (hn : n * dimN e = fs.length) (hl : (fs.length : Int) ≤ 1000000) (w : World) (hc : FsSl w ao fs) :
    Calls Try.prog 87 #[.slice ao fs.length cap, .int .i64 e] w fun en w' => (∃ v, en = .returned v ∧ OwnQ w' w.heap.size v (plcs e fs (dimN e) n)) ∧ Below w.heap.size w w' := by
  rcases hd with rfl | rfl | rfl | rfl
  · exact places_0 ao cap n fs hn hl w hc
  · exact places_1 ao cap n fs hn hl w hc
  · exact places_2 ao cap n fs hn hl w hc
  · exact places_3 ao cap n fs hn hl w hc
end Go.Proofs.Ytpphfoggjejpiaa
