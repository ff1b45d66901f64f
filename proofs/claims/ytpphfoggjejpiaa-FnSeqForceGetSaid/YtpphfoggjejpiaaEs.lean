/-
  The law's corners of an envelope, its tests; the law on growing by a place: its walk. Conditions: as each theorem states them.
-/
import Derived.Test.YtpphfoggjejpiaaEr
import Derived.Test.YtpphfoggjejpiaaRl
import Derived.Deep.RegionLawGrows
import Derived.Deep.AppendLies
namespace Go.Proofs.Ytpphfoggjejpiaa
open Go.RowKit Fl Go.Sort

/-- The corners as a slice: none of the empty one, else a new block of four cells. -/
def Cor (e : En) (v : Value) (w : World) : Prop :=
  (e.ne = true ∧ ∃ B, v = .slice (some ⟨B, 0, none⟩) 2 2 ∧ Blk w B #[.float .f64 e.a, .float .f64 e.b, .float .f64 e.c, .float .f64 e.d]) ∨ (e.ne = false ∧ v = .slice none 0 0)

theorem Cor.below {e : En} {v : Value} {w w' : World} (h : Cor e v w) (hb : Below w.heap.size w w') : Cor e v w' := by
  rcases h with ⟨h1, B, h2, h3⟩ | h
  · exact .inl ⟨h1, B, h2, h3.below hb h3.lt⟩
  · exact .inr h

def CorEnd (e : En) (w : World) (en : Ending) (w' : World) : Prop := (∃ v, en = .returned v ∧ Cor e v w') ∧ Below w.heap.size w w'

theorem corners_any (e : En) (w : World) : Calls Try.prog 29 #[e.p] w (CorEnd e w) := by
  obtain ⟨a, b, c, d, ne⟩ := e
  cases ne with
  | false =>
    unfold En.p
    go_enter Try.func29, Try.ntmps29
    go_wp2
    go_ret
    exact ⟨⟨_, rfl, .inr ⟨rfl, rfl⟩⟩, (by repeat (first | exact Below.refl _ _ | (refine below_gr' ?_ (by first | omega | (simp [go_sem] <;> omega))) | (refine Below.alloc ?_ (by first | omega | (simp [go_sem] <;> omega)) _) | refine Below.drew ?_ | (refine Below.setCell ?_ (by first | omega | (simp [go_sem] <;> omega)) _)))⟩
  | true =>
    unfold En.p
    go_enter Try.func29, Try.ntmps29
    go_wp2
    go_ret
    exact ⟨⟨_, rfl, .inl ⟨rfl, _, rfl, Blk.new' _ _ _ _ (by simp)⟩⟩, (by repeat (first | exact Below.refl _ _ | (refine below_gr' ?_ (by first | omega | (simp [go_sem] <;> omega))) | (refine Below.alloc ?_ (by first | omega | (simp [go_sem] <;> omega)) _) | refine Below.drew ?_ | (refine Below.setCell ?_ (by first | omega | (simp [go_sem] <;> omega)) _)))⟩

/-- The places behind a slice. -/
def PtSl (ps : List (Nat × Nat)) (v : Value) (w : World) : Prop := ∃ B off cap, v = .slice (some ⟨B, off, none⟩) ps.length cap ∧ B < w.heap.size ∧ PtsAt w B off ps

theorem PtsAt.below {w w' : World} {b off : Nat} {ps : List (Nat × Nat)} (h : PtsAt w b off ps) (hb : Below w.heap.size w w') (hlt : b < w.heap.size) : PtsAt w' b off ps := fun i hi =>
  ⟨by rw [hb.cell (p := ⟨b, off + i * 2, none⟩) hlt]; exact (h i hi).1, by rw [hb.cell (p := ⟨b, off + i * 2 + 1, none⟩) hlt]; exact (h i hi).2⟩

theorem PtSl.below {ps : List (Nat × Nat)} {v : Value} {w w' : World} (h : PtSl ps v w) (hb : Below w.heap.size w w') : PtSl ps v w' := by
  obtain ⟨B, off, cap, h1, h2, h3⟩ := h
  exact ⟨B, off, cap, h1, Nat.lt_of_lt_of_le h2 hb.size, h3.below hb h2⟩

/-- The five cells of an envelope at an address. -/
structure EnAt (w : World) (b off : Nat) (e : En) : Prop where
  c0 : w.cell? ⟨b, off, none⟩ = some (.bool e.ne)
  c1 : w.cell? ⟨b, off + 1, none⟩ = some (.float .f64 e.a)
  c2 : w.cell? ⟨b, off + 2, none⟩ = some (.float .f64 e.b)
  c3 : w.cell? ⟨b, off + 3, none⟩ = some (.float .f64 e.c)
  c4 : w.cell? ⟨b, off + 4, none⟩ = some (.float .f64 e.d)

structure En.wf (e : En) : Prop where
  a : e.a < 2 ^ 64
  b : e.b < 2 ^ 64
  c : e.c < 2 ^ 64
  d : e.d < 2 ^ 64

def finE (a b c d : Nat) : Bool := fin a && fin b && fin c && fin d

theorem eFinite_any (a b c d : Nat) (ha : a < 2 ^ 64) (hb : b < 2 ^ 64) (hc : c < 2 ^ 64) (hd : d < 2 ^ 64) (w : World) :
    Calls Try.prog 72 #[.agg #[.float .f64 a, .float .f64 b, .float .f64 c, .float .f64 d]] w fun en w' => en = .returned (.bool (finE a b c d)) ∧ Below w.heap.size w w' := by
  have HB := Lib.hid (And.intro (And.intro ha hb) (And.intro hc hd))
  clear ha hb hc hd
  go_enter Try.func72, Try.ntmps72
  go_wp2_with (go_at_call 25; refine (gFinite_any _ (by first | exact HB.out.1.1 | exact HB.out.1.2 | exact HB.out.2.1 | exact HB.out.2.2) _).mono ?_; rintro e w' ⟨rfl, rfl⟩)
  all_goals go_ret
  all_goals refine ⟨?_, (by repeat (first | exact Below.refl _ _ | (refine below_gr' ?_ (by first | omega | (simp [go_sem] <;> omega))) | (refine Below.alloc ?_ (by first | omega | (simp [go_sem] <;> omega)) _) | refine Below.drew ?_ | (refine Below.setCell ?_ (by first | omega | (simp [go_sem] <;> omega)) _)))⟩
  all_goals simp [finE, *]

def fitE (e : En) : Bool := !e.ne || finE e.a e.b e.c e.d

theorem eFits_any (b off cap : Nat) (e : En) (hwf : e.wf) (w : World) (hlt : b < w.heap.size) (hE : EnAt w b off e) :
    Calls Try.prog 24 #[.slice (some ⟨b, off, none⟩) 1 cap] w fun en w' => en = .returned (.bool (fitE e)) ∧ Below w.heap.size w w' := by
  obtain ⟨a, b', c, d, ne⟩ := e
  obtain ⟨h0, h1, h2, h3, h4⟩ := hE
  dsimp only at *
  have hf := Lib.hid (fun w => eFinite_any a b' c d hwf.a hwf.b hwf.c hwf.d w)
  clear hwf
  obtain ⟨F, hF⟩ : ∃ F, F = finE a b' c d := ⟨_, rfl⟩
  rw [← hF] at hf
  unfold fitE
  dsimp only
  rw [← hF]
  clear hF
  go_enter Try.func24, Try.ntmps24
  go_wp2
  go_loopw [7] (fun i wr => ∃ k : Nat, k ≤ 1 ∧ i = .int .i64 k ∧ Below w.heap.size w wr ∧ Hid (k = 1 → (!ne || F) = true)) (fun i _ => 1 - (intOf i).toNat)
  case atStart => exact ⟨0, by omega, rfl, Below.refl _ _, Lib.hid (by omega)⟩
  case round =>
    obtain ⟨k, hk, rfl, hbl, hr⟩ := hrel
    by_cases hk0 : k = 0
    · subst hk0
      rw [← hbl.cell (p := ⟨b, off, none⟩) hlt] at h0
      rw [← hbl.cell (p := ⟨b, off + 1, none⟩) hlt] at h1
      rw [← hbl.cell (p := ⟨b, off + 2, none⟩) hlt] at h2
      rw [← hbl.cell (p := ⟨b, off + 3, none⟩) hlt] at h3
      rw [← hbl.cell (p := ⟨b, off + 4, none⟩) hlt] at h4
      have hbl' := Lib.hid hbl
      clear hbl hr
      cases ne <;> cases F
      · go_wp2_with (go_at_call 72; refine (hf.out _).mono ?_; rintro e w' ⟨rfl, hb⟩; obtain ⟨q, rfl⟩ := gr_of_below hb; clear hb)
        go_roundw
        case rel => exact ⟨1, by omega, rfl, (hbl'.out).alloc hbl'.out.size _, Lib.hid (fun _ => rfl)⟩
        case measure => simp [intOf]
      · go_wp2_with (go_at_call 72; refine (hf.out _).mono ?_; rintro e w' ⟨rfl, hb⟩; obtain ⟨q, rfl⟩ := gr_of_below hb; clear hb)
        go_roundw
        case rel => exact ⟨1, by omega, rfl, (hbl'.out).alloc hbl'.out.size _, Lib.hid (fun _ => rfl)⟩
        case measure => simp [intOf]
      · go_wp2_with (go_at_call 72; refine (hf.out _).mono ?_; rintro e w' ⟨rfl, hb⟩; obtain ⟨q, rfl⟩ := gr_of_below hb; clear hb)
        go_ret
        exact ⟨rfl, below_gr' ((hbl'.out).alloc hbl'.out.size _) (by have := hbl'.out.size; simp; omega)⟩
      · go_wp2_with (go_at_call 72; refine (hf.out _).mono ?_; rintro e w' ⟨rfl, hb⟩; obtain ⟨q, rfl⟩ := gr_of_below hb; clear hb)
        go_roundw
        case rel => exact ⟨1, by omega, rfl, below_gr' ((hbl'.out).alloc hbl'.out.size _) (by have := hbl'.out.size; simp; omega), Lib.hid (fun _ => rfl)⟩
        case measure => simp [intOf]
    · have hk1 : k = 1 := by omega
      subst hk1
      go_wp2
      go_ret
      exact ⟨by rw [hr.out trivial]; rfl, hbl⟩

theorem xy_info : (Try.prog.info? 24).map (fun i => (i.zero, i.size, i.bytes)) = some (some (.agg #[.float .f64 0, .float .f64 0]), 2, 16) := by kernel_rfl

/-- The cells of places. -/
def flatP : List (Nat × Nat) → List Value
  | [] => []
  | p :: ps => .float .f64 p.1 :: .float .f64 p.2 :: flatP ps

theorem flatP_length : ∀ ps : List (Nat × Nat), (flatP ps).length = ps.length * 2
  | [] => rfl
  | p :: ps => by simp only [flatP, List.length_cons, flatP_length ps]; omega
theorem flatP_append : ∀ ps qs : List (Nat × Nat), flatP (ps ++ qs) = flatP ps ++ flatP qs
  | [], _ => rfl
  | p :: ps, qs => by simp only [flatP, List.cons_append, flatP_append ps]
theorem flatP_one : ∀ (ps : List (Nat × Nat)), ∀ u ∈ flatP ps, u.oneCell' = true
  | [], _, h => by cases h
  | p :: ps, u, h => by
    simp only [flatP, List.mem_cons] at h
    rcases h with rfl | rfl | h
    · rfl
    · rfl
    · exact flatP_one ps u h
theorem flatP_at : ∀ (ps : List (Nat × Nat)) (i : Nat) (h : i < ps.length), (flatP ps)[i * 2]? = some (.float .f64 (ps[i]?.getD (0, 0)).1) ∧ (flatP ps)[i * 2 + 1]? = some (.float .f64 (ps[i]?.getD (0, 0)).2)
  | p :: ps, 0, _ => ⟨rfl, rfl⟩
  | p :: ps, i + 1, h => by
    have := flatP_at ps i (by simpa using h)
    rw [show (i + 1) * 2 = i * 2 + 1 + 1 by omega]
    simpa only [flatP, List.getElem?_cons_succ] using this

theorem addr_add (B j : Nat) : (⟨B, 0, none⟩ : Addr).add j = ⟨B, j, none⟩ := by unfold Addr.add; split <;> simp_all

theorem ptsAt_of_cells {w : World} {g : Nat} {ps : List (Nat × Nat)} (h : ∀ j u, (flatP ps)[j]? = some u → w.cell? ((⟨g, 0, none⟩ : Addr).add j) = some u) : PtsAt w g 0 ps := fun i hi => by
  obtain ⟨h1, h2⟩ := flatP_at ps i hi
  have c1 := h _ _ h1
  have c2 := h _ _ h2
  rw [addr_add] at c1 c2
  rw [Nat.zero_add]
  exact ⟨c1, c2⟩

theorem cells_of_ptsAt {w : World} {g off : Nat} : ∀ {ps : List (Nat × Nat)}, PtsAt w g off ps → ∀ j u, (flatP ps)[j]? = some u → w.cell? ((⟨g, off, none⟩ : Addr).add j) = some u := by
  intro ps h j u hu
  have ha : (⟨g, off, none⟩ : Addr).add j = ⟨g, off + j, none⟩ := by unfold Addr.add; split <;> simp_all
  rw [ha]
  have hj : j < ps.length * 2 := by rw [← flatP_length]; exact (List.getElem?_eq_some_iff.1 hu).1
  have hi : j / 2 < ps.length := by omega
  obtain ⟨h1, h2⟩ := flatP_at ps (j / 2) hi
  obtain ⟨c1, c2⟩ := h (j / 2) hi
  rcases Nat.mod_two_eq_zero_or_one j with hm | hm
  · have e : j / 2 * 2 = j := by omega
    rw [e] at h1
    rw [h1] at hu
    rw [← e, ← (Option.some.inj hu)]
    exact c1
  · have e : j / 2 * 2 + 1 = j := by omega
    rw [e] at h2
    rw [h2] at hu
    rw [← e, ← (Option.some.inj hu), ← Nat.add_assoc]
    exact c2

theorem below_grown {w w' : World} (h : w.grownBy w' none) : Below w.heap.size w w' :=
  ⟨h.os, h.tape, h.output, h.size, fun k hk => h.block k hk (by simp)⟩

/-- Places appended to places, with no room left: a new row. -/
theorem step_append_pts (ops : Array Oper) {o : Oper} {a : Act} {w : World} {K : Act → World → Prop} {Q : Exit → Act → World → Prop} {E : Prop} {c0 : Bool} (hc0 : c0 = true) (hg : o.guard = none) (s x : Operand) (t : TypeId)
    (hop : o.op = Op.call { callee := Callee.builtin Builtin.append, args := #[s, x], argTypes := #[t, t] }) (ht : Try.prog.underlying t = some (.slice 24))
    (ps qs : List (Nat × Nat)) (ao : Option Addr) (cap : Nat) (hs : a.eval s = .slice ao ps.length cap) (hnone : ao = none → ps = [] ∧ cap = 0) (hps : ∀ b, ao = some b → b.spot = none ∧ PtsAt w b.block b.off ps)
    (B off c : Nat) (hx : a.eval x = .slice (some ⟨B, off, none⟩) qs.length c) (hqs : PtsAt w B off qs) (hfull : cap < ps.length + qs.length) (hlen : ps.length + qs.length ≤ 1000000)
    (hK : ∀ v' w', Below w.heap.size w w' → PtSl (ps ++ qs) v' w' → K (a.put o.dst v') w') :
    if c0 = true then Oper.wp Try.prog o a w K Q else E := by
  have hi := xy_info
  obtain ⟨i, hi, hi'⟩ := Option.map_eq_some_iff.1 hi
  obtain ⟨hz, hi''⟩ := Prod.mk.inj hi'
  obtain ⟨hsz, hby⟩ := Prod.mk.inj hi''
  rw [if_pos hc0]
  have hw : Region.wanted o (yielded ops a.tmps) = true := by simp [Region.wanted, hg]
  have hst : if Region.wanted o (yielded ops a.tmps) = true then Oper.wp Try.prog o a w K Q else E := ?_
  · rw [if_pos hw] at hst
    exact hst
  refine step_append_grows hg s x t hop 24 i _ 2 16 ht hi hz hsz hby rfl (by decide) ao ps.length cap (flatP ps) hs (fun h => ?_) (flatP_length ps) (fun b hb => ?_) ⟨B, off, none⟩ qs.length c (flatP qs) hx (flatP_length qs) (cells_of_ptsAt hqs) (flatP_one qs) hfull (by have : maxLen = 9223372036854775807 := rfl; omega) (by omega) ?_
  · obtain ⟨h1, h2⟩ := hnone h
    exact ⟨by rw [h1]; rfl, h2⟩
  · obtain ⟨h1, h2⟩ := hps b hb
    obtain ⟨bb, bo, bp⟩ := b
    dsimp only at h1 h2
    subst h1
    exact cells_of_ptsAt h2
  · intro v' w' hown hgr
    refine hK v' w' (below_grown hgr) ?_
    obtain ⟨g, cap', rfl, _, hlt⟩ := hown.form (by omega)
    refine ⟨g, 0, cap', by rw [List.length_append], hlt, ptsAt_of_cells ?_⟩
    rw [flatP_append]
    exact hown.cells rfl

theorem gen_world {Q : World → Prop} (C : World → Prop) {w : World} (h1 : C w) (h2 : ∀ W, C W → Q W) : Q w := h2 w h1

/-- What is known of the values in the law's last statement. -/
def expRs (e : En) (x y : Nat) : List (Value → World → Prop) :=
  [fun v _ => v = e.p, fun v _ => v = .agg #[.float .f64 x, .float .f64 y], fun v _ => v = (expE (envOf e.ps) (x, y)).norm.p, fun v _ => v = e.p, Cor e, fun v _ => v = .agg #[.float .f64 x, .float .f64 y],
   fun v w => ∃ B, v = .slice (some ⟨B, 0, none⟩) 1 1 ∧ Blk w B #[.float .f64 x, .float .f64 y], PtSl (e.ps ++ [(x, y)]), fun v _ => v = (boxOf (e.ps ++ [(x, y)])).p,
   fun v _ => v = .bool (eqE (expE (envOf e.ps) (x, y)).norm (boxOf (e.ps ++ [(x, y)]))), fun v _ => v = .bool (eqE (expE (envOf e.ps) (x, y)).norm (boxOf (e.ps ++ [(x, y)])))]

theorem expRs_stable (e : En) (x y : Nat) : ∀ R ∈ expRs e x y, ∀ v w w', Below w.heap.size w w' → R v w → R v w' := by
  intro R hR v w w' hb h
  simp only [expRs, List.mem_cons, List.not_mem_nil, or_false] at hR
  rcases hR with rfl | rfl | rfl | rfl | rfl | rfl | rfl | rfl | rfl | rfl | rfl
  · exact h
  · exact h
  · exact h
  · exact h
  · exact h.below hb
  · exact h
  · obtain ⟨B, h1, h2⟩ := h
    exact ⟨B, h1, h2.below hb h2.lt⟩
  · exact h.below hb
  · exact h
  · exact h
  · exact h

set_option maxHeartbeats 1000000 in
set_option maxRecDepth 20000 in
theorem expand_walk (e : En) (x y : Nat) (hwf : e.wf) (hx : x < 2 ^ 64) (hy : y < 2 ^ 64) (hfit : fitE e = true) (hfx : fin x = true) (hfy : fin y = true) (w : World) :
    Calls Try.prog 6 #[e.p, .agg #[.float .f64 x, .float .f64 y]] w fun en w' => en = .returned (.bool (eqE (expE (envOf e.ps) (x, y)).norm (boxOf (e.ps ++ [(x, y)])))) ∧ Below w.heap.size w w' := by
  have HW := Lib.hid (And.intro hwf (And.intro hx hy))
  clear hwf hx hy
  obtain ⟨E, hE⟩ : ∃ E, E = e := ⟨_, rfl⟩
  have hE' := Lib.hid hE
  unfold En.p
  go_enter Try.func6, Try.ntmps6
  go_wp2_with fail
  refine (eFits_any _ _ _ e HW.out.1 _ (by simp) ⟨by go_simp, by go_simp, by go_simp, by go_simp, by go_simp⟩).mono ?_
  rintro en w' ⟨rfl, hb⟩
  obtain ⟨q, rfl⟩ := gr_of_below hb
  clear hb
  rw [hfit]
  go_wp2_with (go_at_call 25; refine (gFinite_any _ (by first | exact HW.out.2.1 | exact HW.out.2.2) _).mono ?_; rintro e w' ⟨rfl, rfl⟩)
  refine gen_world (fun W => Blk W w.heap.size #[.bool e.ne, .float .f64 e.a, .float .f64 e.b, .float .f64 e.c, .float .f64 e.d] ∧ Blk W (w.heap.size + 1) #[.float .f64 x, .float .f64 y] ∧ Below w.heap.size w W) ⟨?bE, ?bX, ?bl⟩ ?_
  case bE => exact ((((Blk.new' _ _ _ _ (by simp)).alloc _).alloc _).gr _).of_same rfl
  case bX => exact (((Blk.new' _ _ _ _ (by simp)).alloc _).gr _).of_same rfl
  case bl => exact (by repeat (first | exact Below.refl _ _ | (refine below_gr' ?_ (by first | omega | (simp [go_sem] <;> omega))) | (refine Below.alloc ?_ (by first | omega | (simp [go_sem] <;> omega)) _) | refine Below.drew ?_ | (refine Below.setCell ?_ (by first | omega | (simp [go_sem] <;> omega)) _)))
  rintro W ⟨hBE, hBX, hBW⟩
  refine wp_region_rel (expRs e x y) (by kernel_rfl) (by kernel_rfl) (by kernel_rfl) (expRs_stable e x y) ?hA ?hfin
  case hA =>
    simp only [RelAll]
    refine ⟨?_, ?_, ?_, ?_, ?_, ?_, ?_, ?_, ?_, ?_, ?_, trivial⟩
    all_goals
      intro u w1 hb hd K hK
      have hE1 := (hBE.below hb hBE.lt).cell
      have hX1 := (hBX.below hb hBX.lt).cell
      clear hb
      simp only [depF, relAt, expRs, Region.binds, List.getElem?_cons_zero, List.getElem?_cons_succ, if_true, and_true, true_and] at hd
      simp only [relAt, expRs, List.getElem?_cons_zero, List.getElem?_cons_succ] at hK
      simp only [fillU, Act.put, List.setIfInBounds_toArray, List.set_cons_zero, List.set_cons_succ, Nat.zero_add, Nat.reduceAdd] at hK ⊢
      try simp only [hd] at hK ⊢
    · go_simp
      exact hK _ _ (Below.refl _ _) rfl
    · go_simp
      exact hK _ _ (Below.refl _ _) rfl
    · go_simp
      refine (envExpand_any e x y _).mono ?_
      rintro en w' ⟨rfl, hb⟩
      exact hK _ _ hb rfl
    · go_simp
      exact hK _ _ (Below.refl _ _) rfl
    · go_simp
      refine (corners_any e _).mono ?_
      rintro en w' ⟨⟨v, rfl, hc⟩, hb⟩
      exact hK _ _ hb hc
    · go_simp
      exact hK _ _ (Below.refl _ _) rfl
    · go_simp
      exact hK _ _ ((Below.refl _ _).alloc (Nat.le_refl _) _) ⟨_, rfl, Blk.new' _ _ _ _ (by simp [go_sem])⟩
    · obtain ⟨hc, ⟨B, hu6, hB⟩, _⟩ := hd
      have hsh : ∃ ao cap, u 4 = .slice ao e.ps.length cap ∧ (ao = none → e.ps = [] ∧ cap = 0) ∧ (∀ b, ao = some b → b.spot = none ∧ PtsAt w1 b.block b.off e.ps) ∧ cap < e.ps.length + 1 := by
        rcases hc with ⟨hne, B', h1, h2⟩ | ⟨hne, h1⟩
        · have hps : e.ps = [(e.a, e.b), (e.c, e.d)] := by simp [En.ps, hne]
          rw [hps]
          refine ⟨some ⟨B', 0, none⟩, 2, h1, (fun h => by cases h), (fun b hb => ?_), by simp⟩
          cases hb
          refine ⟨rfl, fun i hi => ?_⟩
          rw [h2.cell, h2.cell]
          simp only [List.length_cons, List.length_nil] at hi
          have : i = 0 ∨ i = 1 := by omega
          rcases this with rfl | rfl <;> exact ⟨rfl, rfl⟩
        · have hps : e.ps = [] := by simp [En.ps, hne]
          rw [hps]
          exact ⟨none, 0, h1, fun _ => ⟨rfl, rfl⟩, (fun b hb => by cases hb), by simp⟩
      obtain ⟨ao, cap, hu4, h1, h2, h3⟩ := hsh
      have hl2 : e.ps.length ≤ 2 := by unfold En.ps; split <;> simp
      apply step_append_pts (ops := #[]) (ps := e.ps) (qs := [(x, y)]) (ao := ao) (cap := cap) (B := B) (off := 0) (c := 1) (hnone := h1) (hps := h2)
      case hc0 => rfl
      case hg => rfl
      case hop => rfl
      case ht => kernel_rfl
      case hs => simp [Act.eval, hu4]
      case hx => simp [Act.eval, hu6]
      case hqs =>
        intro i hi
        obtain rfl : i = 0 := by simpa using hi
        rw [hB.cell, hB.cell]
        exact ⟨rfl, rfl⟩
      case hfull => simpa using h3
      case hlen => simp; omega
      case hK =>
        intro v' w' hb hp
        simp only [Act.put, List.setIfInBounds_toArray, List.set_cons_zero, List.set_cons_succ]
        exact hK v' w' hb hp
    · obtain ⟨B, off, cap, H⟩ : ∃ B off cap, u 7 = .slice (some ⟨B, off, none⟩) (e.ps ++ [(x, y)]).length cap ∧ B < w1.heap.size ∧ PtsAt w1 B off (e.ps ++ [(x, y)]) := hd.1
      have hu := H.1
      have hlt := H.2.1
      have hp := H.2.2
      have hl2 : e.ps.length ≤ 2 := by unfold En.ps; split <;> simp
      have hof := eOf_any B off cap (e.ps ++ [(x, y)]) w1 hlt (by simp; omega) hp
      obtain ⟨n, hn⟩ : ∃ n, n = (e.ps ++ [(x, y)]).length := ⟨_, rfl⟩
      rw [← hn] at hu hof
      clear hn
      simp only [hu] at hK ⊢
      go_simp
      refine hof.mono ?_
      rintro en w' ⟨rfl, hb⟩
      exact hK _ _ hb rfl
    · go_simp
      refine (eEqual_any _ _ _).mono ?_
      rintro en w' ⟨rfl, hb⟩
      exact hK _ _ hb rfl
    · go_simp
      exact hK _ _ (Below.refl _ _) rfl
  case hfin =>
    intro u w1 hb hR
    have h10 := hR 10 (by decide)
    simp only [relAt, expRs, List.getElem?_cons_zero, List.getElem?_cons_succ] at h10
    simp only [fillU, Act.put, List.setIfInBounds_toArray, List.set_cons_zero, List.set_cons_succ, Nat.zero_add, Nat.reduceAdd, h10]
    go_wp2
    go_ret
    exact ⟨rfl, hBW.trans (hb.mono hBW.size)⟩
end Go.Proofs.Ytpphfoggjejpiaa
