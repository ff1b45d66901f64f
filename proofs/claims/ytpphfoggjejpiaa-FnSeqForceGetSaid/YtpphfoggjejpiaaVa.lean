/-
  The walks over lists of places: taken over into geom's places, their envelope. Conditions: as each theorem states them.
-/
import Derived.Test.YtpphfoggjejpiaaEs
import Derived.Deep.LoopGhost
namespace Go.Proofs.Ytpphfoggjejpiaa
open Go.RowKit Fl Go.Sort

/-- A list of places, the first k of them written, the others still zero. -/
def partP (ps : List (Nat × Nat)) (k : Nat) : List (Nat × Nat) := ps.take k ++ List.replicate (ps.length - k) (0, 0)
def blkP (ps : List (Nat × Nat)) : Array Value := (flatP ps).toArray

theorem flatP_set (x y : Nat) : ∀ (L : List (Nat × Nat)) (k : Nat), k < L.length → ((flatP L).set (k * 2) (.float .f64 x)).set (k * 2 + 1) (.float .f64 y) = flatP (L.set k (x, y))
  | p :: L, 0, _ => rfl
  | p :: L, k + 1, h => by
    rw [show (k + 1) * 2 = k * 2 + 1 + 1 by omega]
    simp only [flatP, List.set_cons_succ]
    rw [flatP_set x y L k (by simpa using h)]

theorem partP_set (ps : List (Nat × Nat)) (k : Nat) (h : k < ps.length) : (partP ps k).set k (ps[k]?.getD (0, 0)) = partP ps (k + 1) := by
  unfold partP
  rw [List.take_add_one, List.getElem?_eq_getElem h, Option.toList_some, Option.getD_some]
  have e : ps.length - k = (ps.length - (k + 1)) + 1 := by omega
  have hl : (ps.take k).length = k := by simp; omega
  rw [e, List.replicate_succ, List.set_append, if_neg (by omega), hl, Nat.sub_self, List.set_cons_zero, List.append_assoc]
  rfl

theorem partP_length (ps : List (Nat × Nat)) (k : Nat) (h : k ≤ ps.length) : (partP ps k).length = ps.length := by
  unfold partP; simp; omega
theorem partP_all (ps : List (Nat × Nat)) : partP ps ps.length = ps := by unfold partP; simp

theorem blkP_set (ps : List (Nat × Nat)) (k : Nat) (h : k < ps.length) (x y : Nat) (hx : ps[k]?.getD (0, 0) = (x, y)) : blkP (partP ps (k + 1)) = ((blkP (partP ps k)).setIfInBounds (k * 2) (.float .f64 x)).setIfInBounds (k * 2 + 1) (.float .f64 y) := by
  unfold blkP
  rw [← partP_set ps k h, hx, ← flatP_set x y _ _ (by rw [partP_length ps k (by omega)]; exact h)]
  simp

theorem blkP_size (ps : List (Nat × Nat)) : (blkP ps).size = ps.length * 2 := by unfold blkP; simp [flatP_length]

theorem PtsAt.of_blk {w : World} {B : Nat} {ps : List (Nat × Nat)} (h : Blk w B (blkP ps)) : PtsAt w B 0 ps :=
  ptsAt_of_cells fun j u hu => by
    rw [addr_add, h.cell]
    unfold blkP
    simpa using hu

theorem gxy_info : (Try.prog.info? 100).map (fun i => (i.zero, i.size, i.bytes)) = some (some (.agg #[.float .f64 0, .float .f64 0]), 2, 16) := by kernel_rfl

theorem made_eq (n : Nat) : madeCells #[.float .f64 0, .float .f64 0] (n * 2) = blkP (List.replicate n (0, 0)) := by
  apply Array.ext_getElem?
  intro j
  have hz : ∀ j, (flatP (List.replicate n (0, 0)))[j]? = if j < n * 2 then some (.float .f64 0) else none := by
    induction n with
    | zero => intro j; simp [flatP]
    | succ n ih =>
      intro j
      rw [List.replicate_succ]
      match j with
      | 0 => simp [flatP]
      | 1 => simp [flatP]; omega
      | j + 2 =>
        simp only [flatP, List.getElem?_cons_succ]
        rw [ih j]
        by_cases h : j < n * 2
        · rw [if_pos h, if_pos (by omega)]
        · rw [if_neg h, if_neg (by omega)]
  unfold blkP madeCells
  rw [show (flatP (List.replicate n (0, 0))).toArray[j]? = (flatP (List.replicate n (0, 0)))[j]? by simp, hz j]
  by_cases h : j < n * 2
  · rw [if_pos h]
    have : j % 2 = 0 ∨ j % 2 = 1 := by omega
    rcases this with e | e <;> simp [h, e]
  · rw [if_neg h]
    simp [h]

theorem make_gxy (n : Nat) (hn : (n : Int) ≤ 1000000) (w : World) : (Instr.makeSlice 121 (.int .i64 n) (.int .i64 n)).run Try.prog w = .ok (.slice (some ⟨w.heap.size, 0, none⟩) n n) (w.alloc (.cells (blkP (List.replicate n (0, 0))) 100)) := by
  obtain ⟨i, hi, hi'⟩ := Option.map_eq_some_iff.1 gxy_info
  obtain ⟨hz, hi''⟩ := Prod.mk.inj hi'
  obtain ⟨hsz, hby⟩ := Prod.mk.inj hi''
  have := run_make (P := Try.prog) w 121 100 i _ (by kernel_rfl) hi hz .i64 .i64 n n (by omega) (Int.le_refl _) (by rw [hby]; omega) (by omega)
  rw [hsz, Int.toNat_natCast] at this
  refine this.trans ?_
  have he : madeCells (Value.agg #[.float .f64 0, .float .f64 0]).cells (n * 2) = blkP (List.replicate n (0, 0)) := made_eq n
  rw [he]

theorem xys_any (b off cap : Nat) (ps : List (Nat × Nat)) (w : World) (hb : b < w.heap.size) (hlen : ps.length ≤ 1000000) (hc : PtsAt w b off ps) :
    Calls Try.prog 79 #[.slice (some ⟨b, off, none⟩) ps.length cap] w fun en w' => ∃ B, en = .returned (.slice (some ⟨B, 0, none⟩) ps.length ps.length) ∧ Blk w' B (blkP ps) ∧ Below w.heap.size w w' := by
  have hc' := Lib.hid hc
  have hl' := Lib.hid hlen
  have hl2 : (ps.length : Int) ≤ 1000000 := by omega
  clear hc hlen
  have hmk := make_gxy ps.length hl2
  go_enter Try.func79, Try.ntmps79
  go_wp2
  have hlb := hb
  go_loopw [11] (fun i wr => ∃ k : Nat, k ≤ ps.length ∧ i = .int .i64 k ∧ Below w.heap.size w wr ∧ Blk wr w.heap.size (blkP (partP ps k))) (fun i _ => ps.length - (intOf i).toNat)
  case atStart => exact ⟨0, Nat.zero_le _, rfl, (by repeat (first | exact Below.refl _ _ | (refine below_gr' ?_ (by first | omega | (simp [go_sem] <;> omega))) | (refine Below.alloc ?_ (by first | omega | (simp [go_sem] <;> omega)) _) | refine Below.drew ?_ | (refine Below.setCell ?_ (by first | omega | (simp [go_sem] <;> omega)) _))), by unfold partP; simpa using Blk.new w _ _⟩
  case round =>
    obtain ⟨k, hk, rfl, hbl, hB⟩ := hrel
    by_cases hlt : k < ps.length
    · have hk1 := (hc'.out k hlt).1
      have hk2 := (hc'.out k hlt).2
      rw [← hbl.cell (p := ⟨b, off + k * 2, none⟩) hb] at hk1
      rw [← hbl.cell (p := ⟨b, off + k * 2 + 1, none⟩) hb] at hk2
      obtain ⟨x, hx⟩ : ∃ x, x = (ps[k]?.getD (0, 0)).1 := ⟨_, rfl⟩
      obtain ⟨y, hy⟩ : ∃ y, y = (ps[k]?.getD (0, 0)).2 := ⟨_, rfl⟩
      have hset := Lib.hid (blkP_set ps k hlt x y (by rw [hx, hy]))
      rw [← hx] at hk1
      rw [← hy] at hk2
      have hB' := Lib.hid hB
      have hbl' := Lib.hid hbl
      have hlB := hB.lt
      have hsz : (blkP (partP ps k)).size = ps.length * 2 := by rw [blkP_size, partP_length ps k hk]
      obtain ⟨v1, hv1⟩ : ∃ v1, wr.cell? ⟨w.heap.size, k * 2, none⟩ = some v1 := ⟨_, by rw [hB.cell, Array.getElem?_eq_getElem (by omega)]⟩
      obtain ⟨v2, hv2⟩ : ∃ v2, wr.cell? ⟨w.heap.size, k * 2 + 1, none⟩ = some v2 := ⟨_, by rw [hB.cell, Array.getElem?_eq_getElem (by omega)]⟩
      have hf1 := hB.frozen (k * 2)
      have hf2 := hB.frozen (k * 2 + 1)
      clear hx hy hB hbl hsz
      go_wp2_with (go_at_call 63; refine (xy_any _ _ _).mono ?_; rintro e w' ⟨rfl, hq⟩; obtain ⟨q, rfl⟩ := gr_of_below hq; clear hq)
      refine ⟨⟨k + 1, by omega, by go_num, ?_, ?_⟩, by simp [intOf]; omega⟩
      · refine below_gr' (Below.alloc (Below.setCell (Below.setCell hbl'.out ?_ _) ?_ _) ?_ _) ?_ <;> (first | omega | (simp [go_sem] <;> omega))
      · refine Blk.gr (Blk.alloc ?_ _) _
        exact ((hB'.out).setCell _ _).setCell_eq hset.out
    · go_wp2
      go_ret
      have : k = ps.length := by omega
      subst this
      rw [partP_all] at hB
      exact ⟨_, rfl, hB, hbl⟩

theorem newEnvelope_any (b off cap : Nat) (ps : List (Nat × Nat)) (w : World) (hb : b < w.heap.size) (hlen : ps.length ≤ 1000000) (hc : PtsAt w b off ps) :
    Calls Try.prog 30 #[.slice (some ⟨b, off, none⟩) ps.length cap] w fun en w' => en = .returned (envOf ps).norm.p ∧ Below w.heap.size w w' := by
  obtain ⟨r, hr⟩ : ∃ r, r = envOf ps := ⟨_, rfl⟩
  obtain ⟨s, hs⟩ : ∃ s, s = r.norm := ⟨_, rfl⟩
  have h1 := Lib.hid (fun w' hb' hc' => xys_any b off cap ps w' hb' hlen hc')
  have h2 := Lib.hid (fun B (w' : World) hb' hc' => newEnv_any B 0 ps.length ps w' hb' (by omega) hc')
  have h3 := Lib.hid (fun w => plain_any r w)
  have er : ps.foldl expE ⟨0, 0, 0, 0, false⟩ = r := hr.symm
  rw [er] at h2
  rw [← hs] at h3
  rw [← hr, ← hs]
  clear er hr hs hlen
  unfold En.v at h2 h3
  unfold En.p at h3 ⊢
  have hb' := Lib.hid hb
  have hc' := Lib.hid hc
  clear hb hc
  go_enter Try.func30, Try.ntmps30
  go_wp2_with fail
  refine (h1.out _ (by have := hb'.out; simp; omega) ?_).mono ?_
  · exact (hc'.out).below ((Below.refl _ _).alloc (Nat.le_refl _) _) hb'.out
  rintro en w' ⟨B, rfl, hB, hq⟩
  have hlB := Lib.hid hB.lt
  have hpB := Lib.hid (PtsAt.of_blk hB)
  clear hB
  obtain ⟨q, rfl⟩ := gr_of_below hq
  clear hq
  go_wp2_with fail
  refine (h2.out B _ hlB.out hpB.out).mono ?_
  rintro en w' ⟨rfl, hq⟩
  obtain ⟨q2, rfl⟩ := gr_of_below hq
  clear hq
  go_wp2_with (go_at_call 75; refine (h3.out _).mono ?_; rintro e w' ⟨rfl, hq⟩; obtain ⟨q3, rfl⟩ := gr_of_below hq; clear hq)
  exact bodyPost_ret (v := .agg #[.bool s.ne, .float .f64 s.a, .float .f64 s.b, .float .f64 s.c, .float .f64 s.d]) (by simp [results, Try.results30, go_sem]) rfl ⟨rfl, (by repeat (first | exact Below.refl _ _ | (refine below_gr' ?_ (by first | omega | (simp [go_sem] <;> omega))) | (refine Below.alloc ?_ (by first | omega | (simp [go_sem] <;> omega)) _) | refine Below.drew ?_ | (refine Below.setCell ?_ (by first | omega | (simp [go_sem] <;> omega)) _)))⟩
end Go.Proofs.Ytpphfoggjejpiaa
