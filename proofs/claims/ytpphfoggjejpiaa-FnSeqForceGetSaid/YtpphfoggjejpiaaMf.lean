/-
  The reference's geometry of plain data, of a line string. Conditions: as each theorem states them.
-/
import Derived.Test.YtpphfoggjejpiaaMe
import Derived.Test.YtpphfoggjejpiaaEs
import Derived.Laws.BitsLemmas
namespace Go.Proofs.Ytpphfoggjejpiaa
open Go.RowKit Fl Go.Sort

/-- A slice that holds the numbers fs. -/
def SlF (fs : List Nat) (v : Value) (w : World) : Prop := ∃ ao cap, v = .slice ao fs.length cap ∧ FsSl w ao fs ∧ (ao = none → cap = 0)

theorem SlF.below {fs : List Nat} {v : Value} {w w' : World} (h : SlF fs v w) (hb : Below w.heap.size w w') : SlF fs v w' := by
  obtain ⟨ao, cap, h1, h2, h3⟩ := h
  exact ⟨ao, cap, h1, h2.below hb, h3⟩

/-- The same, in a block from K on. -/
def SlK (K : Nat) (fs : List Nat) (v : Value) (w : World) : Prop := ∃ ao cap, v = .slice ao fs.length cap ∧ FsSl w ao fs ∧ (ao = none → cap = 0) ∧ ∀ b, ao = some b → K ≤ b.block

theorem SlK.below {K : Nat} {fs : List Nat} {v : Value} {w w' : World} (h : SlK K fs v w) (hb : Below w.heap.size w w') : SlK K fs v w' := by
  obtain ⟨ao, cap, h1, h2, h3, h4⟩ := h
  exact ⟨ao, cap, h1, h2.below hb, h3, h4⟩

def newRs (P B : Nat) (ao : Option Addr) (nums : List Nat) (nc n m nn : Nat) (e : Int) : List (Value → World → Prop) :=
  [fun v _ => v = .pointer (some ⟨P, 2, none⟩), fun v _ => v = .slice none 0 0, fun v _ => v = .pointer (some ⟨B, 2, none⟩), fun v _ => v = .slice ao nums.length nc, fun v _ => v = .int .i64 n, fun v _ => v = .pointer (some ⟨P, 1, none⟩), fun v _ => v = .int .i64 e,
   fun v _ => v = .int .i64 m, fun v _ => v = .int .i64 nn, SlF (nums.take nn), SlK (P + 1) (nums.take nn), fun v _ => v = .pointer (some ⟨P, 2, none⟩)]

theorem newRs_stable (P B : Nat) (ao : Option Addr) (nums : List Nat) (nc n m nn : Nat) (e : Int) : ∀ R ∈ newRs P B ao nums nc n m nn e, ∀ v w w', Below w.heap.size w w' → R v w → R v w' := by
  intro R hR v w w' hb h
  simp only [newRs, List.mem_cons, List.not_mem_nil, or_false] at hR
  rcases hR with rfl | rfl | rfl | rfl | rfl | rfl | rfl | rfl | rfl | rfl | rfl | rfl
  all_goals first | exact h | exact SlF.below h hb | exact SlK.below h hb

set_option maxRecDepth 20000 in
set_option maxHeartbeats 4000000 in
theorem newLeaf_any {dim e : Int} (hd : D4 e) (he : bits .and .i64 dim 3 = e) (ao : Option Addr) (nc : Nat) (nums : List Nat) (ko : Option Addr) (kl kc n nn : Nat) (hn : n = nums.length / dimN e) (hnn : nn = n * dimN e) (hl : (nums.length : Int) ≤ 1000000) (hcap : nums.length ≤ nc ∧ (ao = none → nc = 0)) (w : World) (hc : FsSl w ao nums) :
    Calls Try.prog 55 #[.agg #[.int .i64 2, .int .i64 dim, .slice ao nums.length nc, .slice ko kl kc]] w fun en w' => (∃ v, en = .returned (.agg #[.int .i64 2, .int .i64 e, v, .slice none 0 0]) ∧ SlF (nums.take nn) v w') ∧ Below w.heap.size w w' := by
  have hw1 := Lib.hid (fun w => width_any hd w)
  have hm := dimN_cases e
  have hle : nn ≤ nums.length := by rw [hnn, hn]; exact Nat.div_mul_le_self _ _
  have hq : (nums.length : Int) / (dimN e : Int) = (n : Int) := by rw [hn, Int.natCast_ediv]
  have hmul : (n : Int) * (dimN e : Int) = (nn : Int) := by rw [hnn, Int.natCast_mul]
  have hc' := Lib.hid hc
  have hcap' := Lib.hid hcap
  have hle' := Lib.hid hle
  have hwr : Hid (IntKind.i64.wrap (nn : Int) = (nn : Int)) := Lib.hid (by rw [IntKind.wrap_i64]; omega)
  generalize dimN e = m at *
  clear hc hcap hn hnn hd
  rcases hm with rfl | rfl | rfl
  · simp only [Int.cast_ofNat_Int] at *
    go_enter Try.func55, Try.ntmps55
    go_wp2_with (go_at_call 106; go_in)
    refine wp_region_gr (by kernel_rfl) (by kernel_rfl) ?_
    repeat (first | go_big_quiet_step (first | with_reducible exact Calls.gr_of (hw1.out _)) | quiet_step (first | with_reducible exact Calls.gr_of (hw1.out _)))
    refine wpQuiet_nil ?_
    intro _ hw'
    obtain ⟨q, hw''⟩ := hw'
    subst hw''
    go_wp2_with fail
    refine gen_world (fun W => Blk W w.heap.size #[.int .i64 2, .int .i64 dim, .slice ao nums.length nc, .slice ko kl kc] ∧ Blk W (w.heap.size + 1) #[.int .i64 0, .int .i64 0, .slice none 0 0, .slice none 0 0] ∧ Blk W (w.heap.size + 2) #[.int .i64 2, .int .i64 e, .slice none 0 0, .slice none 0 0] ∧ Below w.heap.size w W) ⟨?bE, ?bM, ?bR, ?bl⟩ ?_
    case bE => exact ((((Blk.new' _ _ _ _ (by simp)).alloc _).alloc _).gr _).of_same rfl
    case bM => exact (((Blk.new' _ _ _ _ (by simp)).alloc _).gr _).of_same rfl
    case bR => exact ((Blk.new' _ _ _ _ (by simp)).gr _).of_same rfl
    case bl => exact (by repeat (first | exact Below.refl _ _ | (refine below_gr' ?_ (by first | omega | (simp [go_sem] <;> omega))) | (refine Below.alloc ?_ (by first | omega | (simp [go_sem] <;> omega)) _) | refine Below.drew ?_ | (refine Below.setCell ?_ (by first | omega | (simp [go_sem] <;> omega)) _)))
    rintro W ⟨hBE, hBM, hBR, hBW⟩
    refine wp_region_rel_tail 12 (newRs (w.heap.size + 2) w.heap.size ao nums nc n 2 nn e) (by kernel_rfl) (by kernel_rfl) (by kernel_rfl) (newRs_stable _ _ ao nums nc n 2 nn e) ?hA ?hfin
    case hA =>
      simp only [RelAll, List.take_succ_cons, List.take_zero]
      refine ⟨?_, ?_, ?_, ?_, ?_, ?_, ?_, ?_, ?_, ?_, ?_, ?_, trivial⟩
      all_goals
        intro u1 w1 hb hd K hK
        have hE1 := (hBE.below hb hBE.lt).cell
        have hR1 := (hBR.below hb hBR.lt).cell
        have hW1 := Lib.hid (hBW.trans (hb.mono hBW.size))
        have hRl : w.heap.size + 2 + 1 ≤ w1.heap.size := (hBR.below hb hBR.lt).lt
        clear hb
        simp only [depF, relAt, newRs, Region.binds, List.getElem?_cons_zero, List.getElem?_cons_succ, if_true, and_true, true_and] at hd
        simp only [relAt, newRs, List.getElem?_cons_zero, List.getElem?_cons_succ] at hK
        simp only [fillU, Act.put, List.setIfInBounds_toArray, List.set_cons_zero, List.set_cons_succ, Nat.zero_add, Nat.reduceAdd] at hK ⊢
        try simp only [hd] at hK ⊢
      · go_simp
        exact hK _ _ (Below.refl _ _) rfl
      · go_simp
        exact hK _ _ (Below.refl _ _) rfl
      · go_simp
        exact hK _ _ (Below.refl _ _) rfl
      · go_simp
        exact hK _ _ (Below.refl _ _) rfl
      · go_simp
        exact hK _ _ (Below.refl _ _) rfl
      · go_simp
        exact hK _ _ (Below.refl _ _) rfl
      · go_simp
        exact hK _ _ (Below.refl _ _) rfl
      · go_simp
        refine (hw1.out _).mono ?_
        rintro en w' ⟨rfl, hb⟩
        exact hK _ _ hb rfl
      · go_simp
        exact hK _ _ (Below.refl _ _) (by rw [hwr.out])
      · have hle2 : nn ≤ nc := Nat.le_trans hle'.out hcap'.out.1
        go_simp
        exact hK _ _ (Below.refl _ _) ⟨ao, nc, by rw [List.length_take, Nat.min_eq_left hle'.out], (hc'.out.below hW1.out).take nn, hcap'.out.2⟩
      · obtain ⟨h1, ⟨ao2, c2, h9, hf9, hn9⟩, _⟩ := hd
        apply step_append_fs (base := w1.heap.size) (v := .slice none 0 0) (fs := []) (ao := ao2) (c := c2) (news := nums.take nn) (hown := OwnF.nil _ _) (hnil := hn9) (hn := hf9) (hbase := Nat.le_refl _)
        case hc0 => rfl
        case ho => rfl
        case ht => kernel_rfl
        case hs => simp [Act.eval, h1]
        case hx => simp [Act.eval, h9]
        case hlen => rw [List.length_nil, List.length_take]; omega
        case h =>
          intro v' w' hown hb
          simp only [Act.put, List.setIfInBounds_toArray, List.set_cons_zero, List.set_cons_succ]
          exact hK v' w' hb (by obtain ⟨ao3, cap3, h3, h4, h5, h6⟩ := hown.sl; rw [List.nil_append] at h3 h4; exact ⟨ao3, cap3, h3, h4, h5, fun b hb' => Nat.le_trans hRl (h6 b hb')⟩)
      · go_simp
        exact hK _ _ (Below.refl _ _) rfl
    case hfin =>
      intro u1 w1 hb hR
      have h10 := hR 10 (by decide)
      have h11 := hR 11 (by decide)
      simp only [relAt, newRs, List.getElem?_cons_zero, List.getElem?_cons_succ] at h10 h11
      obtain ⟨ao3, cap3, h10, hf3, hn3, hk3⟩ := h10
      simp only [fillU, Act.put, List.setIfInBounds_toArray, List.set_cons_zero, List.set_cons_succ, Nat.zero_add, Nat.reduceAdd, h10, h11, List.drop_succ_cons, List.drop_zero]
      have hR1 := (hBR.below hb hBR.lt).cell
      have hRf := (hBR.below hb hBR.lt).frozen
      have hM1 := (hBM.below hb hBM.lt).cell
      have hMf := (hBM.below hb hBM.lt).frozen
      have hRl := (hBR.below hb hBR.lt).lt
      have hML := (hBM.below hb hBM.lt).lt
      have HB := Lib.hid (hBW.trans (hb.mono hBW.size))
      have hf3' := Lib.hid hf3
      have hk3' := Lib.hid hk3
      have hn3' := Lib.hid hn3
      clear hb hR hBE hBM hBR hBW h10 h11 hf3 hk3 hn3
      go_wp2
      refine bodyPost_ret (v := .agg #[.int .i64 2, .int .i64 e, .slice ao3 nn cap3, .slice none 0 0]) (by simp [results, Try.results55, go_sem, hM1, hR1]) rfl ⟨⟨_, rfl, ao3, cap3, by rw [List.length_take, Nat.min_eq_left hle'.out], ?_, hn3'.out⟩, ?_⟩
      · exact ((((hf3'.out.setCell hk3'.out (by omega)).setCell hk3'.out (by omega)).setCell hk3'.out (by omega)).setCell hk3'.out (by omega)).setCell hk3'.out (by omega)
      · exact ((((HB.out.setCell (by show w.heap.size ≤ w.heap.size + 2; omega) _).setCell (by show w.heap.size ≤ w.heap.size + 1; omega) _).setCell (by show w.heap.size ≤ w.heap.size + 1; omega) _).setCell (by show w.heap.size ≤ w.heap.size + 1; omega) _).setCell (by show w.heap.size ≤ w.heap.size + 1; omega) _
  · simp only [Int.cast_ofNat_Int] at *
    go_enter Try.func55, Try.ntmps55
    go_wp2_with (go_at_call 106; go_in)
    refine wp_region_gr (by kernel_rfl) (by kernel_rfl) ?_
    repeat (first | go_big_quiet_step (first | with_reducible exact Calls.gr_of (hw1.out _)) | quiet_step (first | with_reducible exact Calls.gr_of (hw1.out _)))
    refine wpQuiet_nil ?_
    intro _ hw'
    obtain ⟨q, hw''⟩ := hw'
    subst hw''
    go_wp2_with fail
    refine gen_world (fun W => Blk W w.heap.size #[.int .i64 2, .int .i64 dim, .slice ao nums.length nc, .slice ko kl kc] ∧ Blk W (w.heap.size + 1) #[.int .i64 0, .int .i64 0, .slice none 0 0, .slice none 0 0] ∧ Blk W (w.heap.size + 2) #[.int .i64 2, .int .i64 e, .slice none 0 0, .slice none 0 0] ∧ Below w.heap.size w W) ⟨?bE, ?bM, ?bR, ?bl⟩ ?_
    case bE => exact ((((Blk.new' _ _ _ _ (by simp)).alloc _).alloc _).gr _).of_same rfl
    case bM => exact (((Blk.new' _ _ _ _ (by simp)).alloc _).gr _).of_same rfl
    case bR => exact ((Blk.new' _ _ _ _ (by simp)).gr _).of_same rfl
    case bl => exact (by repeat (first | exact Below.refl _ _ | (refine below_gr' ?_ (by first | omega | (simp [go_sem] <;> omega))) | (refine Below.alloc ?_ (by first | omega | (simp [go_sem] <;> omega)) _) | refine Below.drew ?_ | (refine Below.setCell ?_ (by first | omega | (simp [go_sem] <;> omega)) _)))
    rintro W ⟨hBE, hBM, hBR, hBW⟩
    refine wp_region_rel_tail 12 (newRs (w.heap.size + 2) w.heap.size ao nums nc n 3 nn e) (by kernel_rfl) (by kernel_rfl) (by kernel_rfl) (newRs_stable _ _ ao nums nc n 3 nn e) ?hA ?hfin
    case hA =>
      simp only [RelAll, List.take_succ_cons, List.take_zero]
      refine ⟨?_, ?_, ?_, ?_, ?_, ?_, ?_, ?_, ?_, ?_, ?_, ?_, trivial⟩
      all_goals
        intro u1 w1 hb hd K hK
        have hE1 := (hBE.below hb hBE.lt).cell
        have hR1 := (hBR.below hb hBR.lt).cell
        have hW1 := Lib.hid (hBW.trans (hb.mono hBW.size))
        have hRl : w.heap.size + 2 + 1 ≤ w1.heap.size := (hBR.below hb hBR.lt).lt
        clear hb
        simp only [depF, relAt, newRs, Region.binds, List.getElem?_cons_zero, List.getElem?_cons_succ, if_true, and_true, true_and] at hd
        simp only [relAt, newRs, List.getElem?_cons_zero, List.getElem?_cons_succ] at hK
        simp only [fillU, Act.put, List.setIfInBounds_toArray, List.set_cons_zero, List.set_cons_succ, Nat.zero_add, Nat.reduceAdd] at hK ⊢
        try simp only [hd] at hK ⊢
      · go_simp
        exact hK _ _ (Below.refl _ _) rfl
      · go_simp
        exact hK _ _ (Below.refl _ _) rfl
      · go_simp
        exact hK _ _ (Below.refl _ _) rfl
      · go_simp
        exact hK _ _ (Below.refl _ _) rfl
      · go_simp
        exact hK _ _ (Below.refl _ _) rfl
      · go_simp
        exact hK _ _ (Below.refl _ _) rfl
      · go_simp
        exact hK _ _ (Below.refl _ _) rfl
      · go_simp
        refine (hw1.out _).mono ?_
        rintro en w' ⟨rfl, hb⟩
        exact hK _ _ hb rfl
      · go_simp
        exact hK _ _ (Below.refl _ _) (by rw [hwr.out])
      · have hle2 : nn ≤ nc := Nat.le_trans hle'.out hcap'.out.1
        go_simp
        exact hK _ _ (Below.refl _ _) ⟨ao, nc, by rw [List.length_take, Nat.min_eq_left hle'.out], (hc'.out.below hW1.out).take nn, hcap'.out.2⟩
      · obtain ⟨h1, ⟨ao2, c2, h9, hf9, hn9⟩, _⟩ := hd
        apply step_append_fs (base := w1.heap.size) (v := .slice none 0 0) (fs := []) (ao := ao2) (c := c2) (news := nums.take nn) (hown := OwnF.nil _ _) (hnil := hn9) (hn := hf9) (hbase := Nat.le_refl _)
        case hc0 => rfl
        case ho => rfl
        case ht => kernel_rfl
        case hs => simp [Act.eval, h1]
        case hx => simp [Act.eval, h9]
        case hlen => rw [List.length_nil, List.length_take]; omega
        case h =>
          intro v' w' hown hb
          simp only [Act.put, List.setIfInBounds_toArray, List.set_cons_zero, List.set_cons_succ]
          exact hK v' w' hb (by obtain ⟨ao3, cap3, h3, h4, h5, h6⟩ := hown.sl; rw [List.nil_append] at h3 h4; exact ⟨ao3, cap3, h3, h4, h5, fun b hb' => Nat.le_trans hRl (h6 b hb')⟩)
      · go_simp
        exact hK _ _ (Below.refl _ _) rfl
    case hfin =>
      intro u1 w1 hb hR
      have h10 := hR 10 (by decide)
      have h11 := hR 11 (by decide)
      simp only [relAt, newRs, List.getElem?_cons_zero, List.getElem?_cons_succ] at h10 h11
      obtain ⟨ao3, cap3, h10, hf3, hn3, hk3⟩ := h10
      simp only [fillU, Act.put, List.setIfInBounds_toArray, List.set_cons_zero, List.set_cons_succ, Nat.zero_add, Nat.reduceAdd, h10, h11, List.drop_succ_cons, List.drop_zero]
      have hR1 := (hBR.below hb hBR.lt).cell
      have hRf := (hBR.below hb hBR.lt).frozen
      have hM1 := (hBM.below hb hBM.lt).cell
      have hMf := (hBM.below hb hBM.lt).frozen
      have hRl := (hBR.below hb hBR.lt).lt
      have hML := (hBM.below hb hBM.lt).lt
      have HB := Lib.hid (hBW.trans (hb.mono hBW.size))
      have hf3' := Lib.hid hf3
      have hk3' := Lib.hid hk3
      have hn3' := Lib.hid hn3
      clear hb hR hBE hBM hBR hBW h10 h11 hf3 hk3 hn3
      go_wp2
      refine bodyPost_ret (v := .agg #[.int .i64 2, .int .i64 e, .slice ao3 nn cap3, .slice none 0 0]) (by simp [results, Try.results55, go_sem, hM1, hR1]) rfl ⟨⟨_, rfl, ao3, cap3, by rw [List.length_take, Nat.min_eq_left hle'.out], ?_, hn3'.out⟩, ?_⟩
      · exact ((((hf3'.out.setCell hk3'.out (by omega)).setCell hk3'.out (by omega)).setCell hk3'.out (by omega)).setCell hk3'.out (by omega)).setCell hk3'.out (by omega)
      · exact ((((HB.out.setCell (by show w.heap.size ≤ w.heap.size + 2; omega) _).setCell (by show w.heap.size ≤ w.heap.size + 1; omega) _).setCell (by show w.heap.size ≤ w.heap.size + 1; omega) _).setCell (by show w.heap.size ≤ w.heap.size + 1; omega) _).setCell (by show w.heap.size ≤ w.heap.size + 1; omega) _
  · simp only [Int.cast_ofNat_Int] at *
    go_enter Try.func55, Try.ntmps55
    go_wp2_with (go_at_call 106; go_in)
    refine wp_region_gr (by kernel_rfl) (by kernel_rfl) ?_
    repeat (first | go_big_quiet_step (first | with_reducible exact Calls.gr_of (hw1.out _)) | quiet_step (first | with_reducible exact Calls.gr_of (hw1.out _)))
    refine wpQuiet_nil ?_
    intro _ hw'
    obtain ⟨q, hw''⟩ := hw'
    subst hw''
    go_wp2_with fail
    refine gen_world (fun W => Blk W w.heap.size #[.int .i64 2, .int .i64 dim, .slice ao nums.length nc, .slice ko kl kc] ∧ Blk W (w.heap.size + 1) #[.int .i64 0, .int .i64 0, .slice none 0 0, .slice none 0 0] ∧ Blk W (w.heap.size + 2) #[.int .i64 2, .int .i64 e, .slice none 0 0, .slice none 0 0] ∧ Below w.heap.size w W) ⟨?bE, ?bM, ?bR, ?bl⟩ ?_
    case bE => exact ((((Blk.new' _ _ _ _ (by simp)).alloc _).alloc _).gr _).of_same rfl
    case bM => exact (((Blk.new' _ _ _ _ (by simp)).alloc _).gr _).of_same rfl
    case bR => exact ((Blk.new' _ _ _ _ (by simp)).gr _).of_same rfl
    case bl => exact (by repeat (first | exact Below.refl _ _ | (refine below_gr' ?_ (by first | omega | (simp [go_sem] <;> omega))) | (refine Below.alloc ?_ (by first | omega | (simp [go_sem] <;> omega)) _) | refine Below.drew ?_ | (refine Below.setCell ?_ (by first | omega | (simp [go_sem] <;> omega)) _)))
    rintro W ⟨hBE, hBM, hBR, hBW⟩
    refine wp_region_rel_tail 12 (newRs (w.heap.size + 2) w.heap.size ao nums nc n 4 nn e) (by kernel_rfl) (by kernel_rfl) (by kernel_rfl) (newRs_stable _ _ ao nums nc n 4 nn e) ?hA ?hfin
    case hA =>
      simp only [RelAll, List.take_succ_cons, List.take_zero]
      refine ⟨?_, ?_, ?_, ?_, ?_, ?_, ?_, ?_, ?_, ?_, ?_, ?_, trivial⟩
      all_goals
        intro u1 w1 hb hd K hK
        have hE1 := (hBE.below hb hBE.lt).cell
        have hR1 := (hBR.below hb hBR.lt).cell
        have hW1 := Lib.hid (hBW.trans (hb.mono hBW.size))
        have hRl : w.heap.size + 2 + 1 ≤ w1.heap.size := (hBR.below hb hBR.lt).lt
        clear hb
        simp only [depF, relAt, newRs, Region.binds, List.getElem?_cons_zero, List.getElem?_cons_succ, if_true, and_true, true_and] at hd
        simp only [relAt, newRs, List.getElem?_cons_zero, List.getElem?_cons_succ] at hK
        simp only [fillU, Act.put, List.setIfInBounds_toArray, List.set_cons_zero, List.set_cons_succ, Nat.zero_add, Nat.reduceAdd] at hK ⊢
        try simp only [hd] at hK ⊢
      · go_simp
        exact hK _ _ (Below.refl _ _) rfl
      · go_simp
        exact hK _ _ (Below.refl _ _) rfl
      · go_simp
        exact hK _ _ (Below.refl _ _) rfl
      · go_simp
        exact hK _ _ (Below.refl _ _) rfl
      · go_simp
        exact hK _ _ (Below.refl _ _) rfl
      · go_simp
        exact hK _ _ (Below.refl _ _) rfl
      · go_simp
        exact hK _ _ (Below.refl _ _) rfl
      · go_simp
        refine (hw1.out _).mono ?_
        rintro en w' ⟨rfl, hb⟩
        exact hK _ _ hb rfl
      · go_simp
        exact hK _ _ (Below.refl _ _) (by rw [hwr.out])
      · have hle2 : nn ≤ nc := Nat.le_trans hle'.out hcap'.out.1
        go_simp
        exact hK _ _ (Below.refl _ _) ⟨ao, nc, by rw [List.length_take, Nat.min_eq_left hle'.out], (hc'.out.below hW1.out).take nn, hcap'.out.2⟩
      · obtain ⟨h1, ⟨ao2, c2, h9, hf9, hn9⟩, _⟩ := hd
        apply step_append_fs (base := w1.heap.size) (v := .slice none 0 0) (fs := []) (ao := ao2) (c := c2) (news := nums.take nn) (hown := OwnF.nil _ _) (hnil := hn9) (hn := hf9) (hbase := Nat.le_refl _)
        case hc0 => rfl
        case ho => rfl
        case ht => kernel_rfl
        case hs => simp [Act.eval, h1]
        case hx => simp [Act.eval, h9]
        case hlen => rw [List.length_nil, List.length_take]; omega
        case h =>
          intro v' w' hown hb
          simp only [Act.put, List.setIfInBounds_toArray, List.set_cons_zero, List.set_cons_succ]
          exact hK v' w' hb (by obtain ⟨ao3, cap3, h3, h4, h5, h6⟩ := hown.sl; rw [List.nil_append] at h3 h4; exact ⟨ao3, cap3, h3, h4, h5, fun b hb' => Nat.le_trans hRl (h6 b hb')⟩)
      · go_simp
        exact hK _ _ (Below.refl _ _) rfl
    case hfin =>
      intro u1 w1 hb hR
      have h10 := hR 10 (by decide)
      have h11 := hR 11 (by decide)
      simp only [relAt, newRs, List.getElem?_cons_zero, List.getElem?_cons_succ] at h10 h11
      obtain ⟨ao3, cap3, h10, hf3, hn3, hk3⟩ := h10
      simp only [fillU, Act.put, List.setIfInBounds_toArray, List.set_cons_zero, List.set_cons_succ, Nat.zero_add, Nat.reduceAdd, h10, h11, List.drop_succ_cons, List.drop_zero]
      have hR1 := (hBR.below hb hBR.lt).cell
      have hRf := (hBR.below hb hBR.lt).frozen
      have hM1 := (hBM.below hb hBM.lt).cell
      have hMf := (hBM.below hb hBM.lt).frozen
      have hRl := (hBR.below hb hBR.lt).lt
      have hML := (hBM.below hb hBM.lt).lt
      have HB := Lib.hid (hBW.trans (hb.mono hBW.size))
      have hf3' := Lib.hid hf3
      have hk3' := Lib.hid hk3
      have hn3' := Lib.hid hn3
      clear hb hR hBE hBM hBR hBW h10 h11 hf3 hk3 hn3
      go_wp2
      refine bodyPost_ret (v := .agg #[.int .i64 2, .int .i64 e, .slice ao3 nn cap3, .slice none 0 0]) (by simp [results, Try.results55, go_sem, hM1, hR1]) rfl ⟨⟨_, rfl, ao3, cap3, by rw [List.length_take, Nat.min_eq_left hle'.out], ?_, hn3'.out⟩, ?_⟩
      · exact ((((hf3'.out.setCell hk3'.out (by omega)).setCell hk3'.out (by omega)).setCell hk3'.out (by omega)).setCell hk3'.out (by omega)).setCell hk3'.out (by omega)
      · exact ((((HB.out.setCell (by show w.heap.size ≤ w.heap.size + 2; omega) _).setCell (by show w.heap.size ≤ w.heap.size + 1; omega) _).setCell (by show w.heap.size ≤ w.heap.size + 1; omega) _).setCell (by show w.heap.size ≤ w.heap.size + 1; omega) _).setCell (by show w.heap.size ≤ w.heap.size + 1; omega) _
end Go.Proofs.Ytpphfoggjejpiaa
