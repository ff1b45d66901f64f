/-
  The walk over the thin package's plain sequence. Conditions: as each theorem states them.
-/
import Derived.Test.YtpphfoggjejpiaaMj
namespace Go.Proofs.Ytpphfoggjejpiaa
open Go.RowKit Fl Go.Sort

theorem OwnF.of_same {w w' : World} {base : Nat} {v : Value} {fs : List Nat} (h : OwnF w base v fs) (hs : ∀ g, base ≤ g → g < w.heap.size → w'.heap[g]? = w.heap[g]?) : OwnF w' base v fs := by
  refine ⟨h.1, ?_⟩
  rcases h.2 with h | ⟨g, cap, cur, h1, h2, h3, h4⟩
  · exact .inl h
  · exact .inr ⟨g, cap, cur, h1, h2, by rw [hs g h2 (Array.getElem?_eq_some_iff.1 h3).1]; exact h3, h4⟩

theorem OwnF.keep {w w' : World} {base : Nat} {v : Value} {fs : List Nat} (h : OwnF w base v fs) (hb : Below w.heap.size w w') : OwnF w' base v fs := h.of_same (fun g _ hg => hb.block g hg)
theorem OwnF.setCell {w : World} {base P i : Nat} {v u : Value} {fs : List Nat} (h : OwnF w base v fs) (hP : P < base) : OwnF (w.setCell ⟨P, i, none⟩ u) base v fs := h.of_same (fun g hg _ => Below.heap_setCell w _ _ g (by show g ≠ P; omega))
theorem OwnF.own_lt {w : World} {base : Nat} {v : Value} {fs : List Nat} (h : OwnF w base v fs) : ∀ k, v.ownBlock = some k → k < w.heap.size := by
  intro k hk
  rcases h.2 with ⟨rfl, _⟩ | ⟨g, cap, cur, rfl, _, h3, _⟩
  · cases hk
  · cases hk; exact (Array.getElem?_eq_some_iff.1 h3).1

theorem wpList_append_f1 {ops : Array Oper} {rest : List Oper} {o : Oper} {a : Act} {w : World} {Q : Exit → Act → World → Prop} (hgd : o.guard = none) (s x : Operand) (t : TypeId)
    (ho : o.op = .call { callee := .builtin .append, args := #[s, x], argTypes := #[t, t] }) (ht : Try.prog.underlying t = some (.slice 22)) (base : Nat) (v : Value) (fs : List Nat) (hs : a.eval s = v) (hown : OwnF w base v fs)
    (B m c : Nat) (news : List Nat) (hx : a.eval x = .slice (some ⟨B, 0, none⟩) m c) (hm : news.length = m) (h0 : 0 < m) (hn : FsAt w B 0 news) (hlen : fs.length + news.length ≤ 1000000) (hbase : base ≤ w.heap.size)
    (h : ∀ v' w', OwnF w' base v' (fs ++ news) → Below base w w' → (∀ k, k < w.heap.size → v.ownBlock ≠ some k → w'.heap[k]? = w.heap[k]?) → (∀ k, v'.ownBlock = some k → v.ownBlock = some k ∨ k = w.heap.size) → w.heap.size ≤ w'.heap.size → wpList Try.prog ops Q rest (a.put o.dst v') w') : wpList Try.prog ops Q (o :: rest) a w := by
  obtain ⟨i, hi, hi'⟩ := Option.map_eq_some_iff.1 f64_info
  obtain ⟨hz, hi''⟩ := Prod.mk.inj hi'
  obtain ⟨hsz, hby⟩ := Prod.mk.inj hi''
  refine wpList_append_lies w hgd s x t ho base 22 i _ 1 8 ht hi hz hsz hby rfl (by decide) v fs.length (flC fs) hs hown ⟨B, 0, none⟩ m c (flC news) hx (by rw [flC_length, hm, Nat.mul_one]) (FsSl.cells hn) (flC_one _) h0 (by have : maxLen = 9223372036854775807 := rfl; omega) (by omega) hbase _ rfl ?_
  intro g cap w' hown' hgr hg _
  refine h _ w' ?_ (below_ownF hown hgr hbase) (fun k hk hne => hgr.block k hk (fun e => hne e.symm)) (fun k hk => ?_) hgr.size
  · unfold OwnF
    rw [flC_append, List.length_append, hm]
    exact hown'
  · simp only [Value.ownBlock, Option.some.injEq] at hk
    subst hk
    exact hg

theorem length_ao {d : Int} (hd : D4 d) (ao : Option Addr) (n cap : Nat) (hn : (n : Int) ≤ 1000000) (w : World) :
    Calls Try.prog 135 #[.agg #[.int .u8 d, .slice ao n cap]] w fun e w' => e = .returned (.int .i64 ((n / dimN d : Nat) : Int)) ∧ Below w.heap.size w w' := by
  have h1 := Lib.hid (fun w => dim_any hd w)
  have hm := dimN_cases d
  generalize dimN d = m at h1 hm ⊢
  rcases hm with rfl | rfl | rfl
  all_goals
    go_enter Try.func135, Try.ntmps135
    go_wp2_with fail
    refine wp_region_gr (by kernel_rfl) (by kernel_rfl) ?_
    repeat (first | go_big_quiet_step (first | with_reducible exact Calls.gr_of (h1.out _)) | quiet_step (first | with_reducible exact Calls.gr_of (h1.out _)))
    refine wpQuiet_nil ?_
    intro _ hw'
    obtain ⟨q, hw''⟩ := hw'
    subst hw''
    go_wp2
    go_ret
    exact ⟨rfl, (by repeat (first | exact Below.refl _ _ | (refine below_gr' ?_ (by first | omega | (simp [go_sem] <;> omega))) | (refine Below.alloc ?_ (by first | omega | (simp [go_sem] <;> omega)) _) | refine Below.drew ?_ | (refine Below.setCell ?_ (by first | omega | (simp [go_sem] <;> omega)) _)))⟩


set_option maxRecDepth 8000 in
set_option maxHeartbeats 4000000 in
theorem plain_0 (ao : Option Addr) (cap n L : Nat) (F : List Nat) (hn : n * 2 = L) (hF : F.length = L) (hl : (L : Int) ≤ 10000) (w : World) (hc : Fs0 w ao F) :
    Calls Try.prog 92 #[.agg #[.int .u8 0, .slice ao L cap]] w fun en w' => (∃ v, en = .returned (.agg #[.int .i64 2, .int .i64 0, v, .slice none 0 0]) ∧ SlK w.heap.size F v w') ∧ Below w.heap.size w w' := by
  have hd : D4 0 := by unfold D4; omega
  have hlen := Lib.hid (fun w' => length_ao hd ao L cap (by omega) w')
  rw [show dimN 0 = 2 from rfl, ← hn, Nat.mul_div_cancel _ (by omega : 0 < 2), hn] at hlen
  have hget := Lib.hid (fun k b w' (hao : ao = some ⟨b, 0, none⟩) (hk : k < n) (hb : b < w'.heap.size) (hf : FsAt w' b 0 F) => get_any hd b cap k (k * 2) F rfl (by rw [show dimN 0 = 2 from rfl]; omega) (by omega) w' hb hf)
  rw [hF] at hget
  have hsame := Lib.hid (fun k (hk : k < n) => numsOf_same hd F (k * 2) (by rw [show dimN 0 = 2 from rfl]; omega))
  have hc' := Lib.hid hc
  have hF' := Lib.hid hF
  clear hc hF
  unfold seqV coV at hget
  go_enter Try.func92, Try.ntmps92
  go_wp2_with (go_at_call 134; go_in)
  go_loopw [4] (fun i wr => ∃ (k : Nat) (v : Value), k ≤ n ∧ i = .int .i64 k ∧ Blk wr w.heap.size #[.int .u8 0, .slice ao L cap] ∧ Blk wr (w.heap.size + 1) #[.int .i64 0, .int .i64 0, .slice none 0 0, .slice none 0 0] ∧ Blk wr (w.heap.size + 1 + 1 + 1) #[.int .i64 2, .int .i64 0, v, .slice none 0 0] ∧ OwnF wr (w.heap.size + 4) v (F.take (k * 2)) ∧ Below w.heap.size w wr ∧ w.heap.size + 4 ≤ wr.heap.size) (fun i _ => n - (intOf i).toNat)
  case atStart => exact ⟨0, _, Nat.zero_le _, rfl, (((Blk.new _ _ _).alloc _).alloc _).alloc _, ((Blk.new' _ _ _ _ (by simp)).alloc _).alloc _, Blk.new' _ _ _ _ (by simp), by rw [Nat.zero_mul, List.take_zero]; exact OwnF.nil _ _, (by repeat (first | exact Below.refl _ _ | (refine below_gr' ?_ (by first | omega | (simp [go_sem] <;> omega))) | (refine Below.alloc ?_ (by first | omega | (simp [go_sem] <;> omega)) _) | refine Below.drew ?_ | (refine Below.setCell ?_ (by first | omega | (simp [go_sem] <;> omega)) _))), by simp⟩
  case round =>
    obtain ⟨k, v, hk, rfl, hS, hR, hG, hown, hbl, hsz⟩ := hrel
    have hS' := Lib.hid hS
    have hR' := Lib.hid hR
    have hG' := Lib.hid hG
    have hown' := Lib.hid hown
    have hbl' := Lib.hid hbl
    have hsz' := Lib.hid hsz
    have hcS := hS.cell
    have hlS := hS.lt
    have hcG := hG.cell
    have hfG := hG.frozen
    have hlG := hG.lt
    have hlR := hR.lt
    by_cases hlt : k < n
    · obtain ⟨b, hao, hb, hfs⟩ := hc'.out (by rw [hF'.out]; omega)
      have hbw := Lib.hid (Nat.lt_of_lt_of_le hb hbl.size)
      have hfw := Lib.hid (hfs.below hbl hb)
      have hGet := Lib.hid (fun w' hb' hf' => hget.out k b w' hao hlt hb' hf')
      have hnum := hsame.out k hlt
      rw [show dimN 0 = 2 from rfl] at hnum
      simp only [numsOf, plc] at hnum
      generalize F[k * 2]?.getD 0 = x at *
      generalize F[k * 2 + 1]?.getD 0 = y at *
      generalize fz 0 F (k * 2) = z at *
      generalize fm 0 F (k * 2) = mm at *
      simp at hnum
      have htake : Hid (F.take ((k + 1) * 2) = F.take (k * 2) ++ [x, y]) := Lib.hid (by rw [Nat.succ_mul, List.take_add, ← hnum])
      have htl := Lib.hid (show (F.take (k * 2)).length ≤ 10000 by rw [List.length_take, hF'.out]; omega)
      have hCG1 : ∀ t, (wr.heap.size + t = w.heap.size + 1 + 1 + 1) = False := fun t => by simp; omega
      have hCG2 : ∀ t, (w.heap.size + 1 + 1 + 1 = wr.heap.size + t) = False := fun t => by simp; omega
      subst hao
      obtain ⟨ao2, cap2, rfl, -, -, -⟩ := hown.sl
      clear hS hR hG hown hbl hsz hfs hnum
      generalize F.take (k * 2) = FT at *
      go_wp2_with (first | (go_at_call 135; refine (hlen.out _).mono ?_; rintro e w' ⟨rfl, hq⟩; obtain ⟨q0, rfl⟩ := gr_of_below hq; clear hq) | (go_at_call 91; refine Calls.mono (hGet.out _ ?_ ?_) ?_; (exact Nat.lt_of_lt_of_le hbw.out (gr_below _ _).size); (exact hfw.out.below (gr_below _ _) hbw.out); rintro e w' ⟨rfl, hq⟩; obtain ⟨q, rfl⟩ := gr_of_below hq; clear hq) | (go_at_call 136; go_in) | (go_at_call 137; go_in) | (at_builtin; refine wpList_append_f1 rfl _ _ _ rfl (by kernel_rfl) (w.heap.size + 4) (.slice ao2 FT.length cap2) (FT) rfl (World.ownsRow.alloc (World.ownsRow.alloc (hown'.out.keep (gr_below _ _)) _) _) _ 2 2 [x, y] rfl rfl (by omega) (fsAt_blk (Blk.new' _ _ _ _ (by simp [go_sem]))) (by have := htl.out; simp only [List.length_append, List.length_cons, List.length_nil]; omega) (by have := hsz'.out; simp [go_sem] <;> omega) ?_; intro v1 w1 ho1 hb1 hk1 hv1 hs1; obtain ⟨av1, cv1, rfl, -, -, -⟩ := ho1.sl; generalize List.length (FT ++ [x, y]) = nv1 at ho1 hv1 ⊢; have hG1 := (((hG'.out.gr _).alloc _).alloc _).below hb1 (by omega); have hC1 : Blk w1 (wr.heap.size + (rthen q0 q).os.size) #[.float .f64 x, .float .f64 y, .float .f64 z, .float .f64 mm, .int .u8 0] := ((Blk.new' _ _ _ _ (by simp [go_sem])).alloc _).of_same (hk1 _ (by simp [go_sem]) (fun e => by have := hown'.out.own_lt _ e; omega)); have hS1 := Lib.hid ((((hS'.out.gr _).alloc _).alloc _).below hb1 (by omega)); have hR1 := Lib.hid ((((hR'.out.gr _).alloc _).alloc _).below hb1 (by omega)); have own1 := Lib.hid ho1; have hbl1 : Hid (Below w.heap.size w w1) := Lib.hid (Below.trans (by have h1 := hbl'.out; have h2 := h1.size; repeat (first | exact h1 | (refine Below.alloc ?_ (by first | omega | (simp [go_sem] <;> omega)) _) | (refine below_gr' ?_ (by first | omega | (simp [go_sem] <;> omega))))) (hb1.mono (by omega))); have hnc1 : Hid (∀ k', (Value.slice av1 nv1 cv1).ownBlock = some k' → k' < wr.heap.size ∨ (wr.heap.size + (rthen q0 q).os.size) < k') := Lib.hid (fun k' e => by rcases hv1 k' e with h | h; exact .inl (hown'.out.own_lt _ h); (right; rw [h]; simp [go_sem] <;> omega)); have hsz1 : Hid (w.heap.size + 4 ≤ w1.heap.size) := Lib.hid (by have := hsz'.out; have h6 : _ ≤ _ := hs1; simp [go_sem] at h6; omega); have hcG1 := hG1.cell; have hfG1 := hG1.frozen; have hcC1 := hC1.cell; have hlG1 := hG1.lt; have hlC1 := hC1.lt; clear hb1 hk1 hv1 hs1 ho1))
      go_roundw
      case rel =>
        repeat apply Exists.intro
        refine ⟨?_, rfl⟩
        exact ⟨k + 1, _, by omega, by go_num, hS1.out.setCell_ne (by show w.heap.size ≠ (w.heap.size + 1 + 1 + 1); omega) _, hR1.out.setCell_ne (by show w.heap.size + 1 ≠ (w.heap.size + 1 + 1 + 1); omega) _, hG1.setCell_eq rfl, by rw [htake.out]; simpa using own1.out.setCell (by omega), hbl1.out.setCell (by show w.heap.size ≤ (w.heap.size + 1 + 1 + 1); omega) _, by simpa [World.setCell] using hsz1.out⟩
      case measure => simp [intOf]; omega
    · have hkn : k = n := by omega
      subst hkn
      have htk : F.take (k * 2) = F := by rw [hn, ← hF'.out, List.take_length]
      rw [htk] at hown hown'
      obtain ⟨ao2, cap2, rfl, hf2, hn2, hk2⟩ := hown.sl
      have hf2' := Lib.hid hf2
      have hn2' := Lib.hid hn2
      have hk2' := Lib.hid hk2
      rw [hF'.out] at hcG
      clear hS hG hown hown' hbl hf2 hn2 hk2 htk hG'
      have hcR := hR.cell
      have hfR := hR.frozen
      clear hR
      go_wp2_with (go_at_call 135; refine (hlen.out _).mono ?_; rintro e w' ⟨rfl, hq⟩; obtain ⟨q0, rfl⟩ := gr_of_below hq; clear hq)
      have hsc : ∀ (w : World) (a : Addr) (v : Value), (w.setCell a v).heap.size = w.heap.size := fun _ _ _ => by simp [World.setCell]
      refine bodyPost_ret (v := .agg #[.int .i64 2, .int .i64 0, .slice ao2 L cap2, .slice none 0 0]) (by simp [results, Try.results92, go_sem, hcR, hsc, hlR]) rfl ⟨⟨_, rfl, ao2, cap2, by rw [hF'.out], ?_, hn2'.out, fun b h => by have := hk2'.out b h; omega⟩, ?_⟩
      · exact ((((hf2'.out.setCell hk2'.out (by omega)).setCell hk2'.out (by omega)).setCell hk2'.out (by omega)).setCell hk2'.out (by omega)).below (gr_below _ _)
      · exact below_gr' ((((hbl'.out.setCell (by show w.heap.size ≤ w.heap.size + 1; omega) _).setCell (by show w.heap.size ≤ w.heap.size + 1; omega) _).setCell (by show w.heap.size ≤ w.heap.size + 1; omega) _).setCell (by show w.heap.size ≤ w.heap.size + 1; omega) _) (by have := hbl'.out.size; simpa [World.setCell] using this)

set_option maxRecDepth 8000 in
set_option maxHeartbeats 4000000 in
theorem plain_1 (ao : Option Addr) (cap n L : Nat) (F : List Nat) (hn : n * 3 = L) (hF : F.length = L) (hl : (L : Int) ≤ 10000) (w : World) (hc : Fs0 w ao F) :
    Calls Try.prog 92 #[.agg #[.int .u8 1, .slice ao L cap]] w fun en w' => (∃ v, en = .returned (.agg #[.int .i64 2, .int .i64 1, v, .slice none 0 0]) ∧ SlK w.heap.size F v w') ∧ Below w.heap.size w w' := by
  have hd : D4 1 := by unfold D4; omega
  have hlen := Lib.hid (fun w' => length_ao hd ao L cap (by omega) w')
  rw [show dimN 1 = 3 from rfl, ← hn, Nat.mul_div_cancel _ (by omega : 0 < 3), hn] at hlen
  have hget := Lib.hid (fun k b w' (hao : ao = some ⟨b, 0, none⟩) (hk : k < n) (hb : b < w'.heap.size) (hf : FsAt w' b 0 F) => get_any hd b cap k (k * 3) F rfl (by rw [show dimN 1 = 3 from rfl]; omega) (by omega) w' hb hf)
  rw [hF] at hget
  have hsame := Lib.hid (fun k (hk : k < n) => numsOf_same hd F (k * 3) (by rw [show dimN 1 = 3 from rfl]; omega))
  have hc' := Lib.hid hc
  have hF' := Lib.hid hF
  clear hc hF
  unfold seqV coV at hget
  go_enter Try.func92, Try.ntmps92
  go_wp2_with (go_at_call 134; go_in)
  go_loopw [4] (fun i wr => ∃ (k : Nat) (v : Value), k ≤ n ∧ i = .int .i64 k ∧ Blk wr w.heap.size #[.int .u8 1, .slice ao L cap] ∧ Blk wr (w.heap.size + 1) #[.int .i64 0, .int .i64 0, .slice none 0 0, .slice none 0 0] ∧ Blk wr (w.heap.size + 1 + 1 + 1) #[.int .i64 2, .int .i64 1, v, .slice none 0 0] ∧ OwnF wr (w.heap.size + 4) v (F.take (k * 3)) ∧ Below w.heap.size w wr ∧ w.heap.size + 4 ≤ wr.heap.size) (fun i _ => n - (intOf i).toNat)
  case atStart => exact ⟨0, _, Nat.zero_le _, rfl, (((Blk.new _ _ _).alloc _).alloc _).alloc _, ((Blk.new' _ _ _ _ (by simp)).alloc _).alloc _, Blk.new' _ _ _ _ (by simp), by rw [Nat.zero_mul, List.take_zero]; exact OwnF.nil _ _, (by repeat (first | exact Below.refl _ _ | (refine below_gr' ?_ (by first | omega | (simp [go_sem] <;> omega))) | (refine Below.alloc ?_ (by first | omega | (simp [go_sem] <;> omega)) _) | refine Below.drew ?_ | (refine Below.setCell ?_ (by first | omega | (simp [go_sem] <;> omega)) _))), by simp⟩
  case round =>
    obtain ⟨k, v, hk, rfl, hS, hR, hG, hown, hbl, hsz⟩ := hrel
    have hS' := Lib.hid hS
    have hR' := Lib.hid hR
    have hG' := Lib.hid hG
    have hown' := Lib.hid hown
    have hbl' := Lib.hid hbl
    have hsz' := Lib.hid hsz
    have hcS := hS.cell
    have hlS := hS.lt
    have hcG := hG.cell
    have hfG := hG.frozen
    have hlG := hG.lt
    have hlR := hR.lt
    by_cases hlt : k < n
    · obtain ⟨b, hao, hb, hfs⟩ := hc'.out (by rw [hF'.out]; omega)
      have hbw := Lib.hid (Nat.lt_of_lt_of_le hb hbl.size)
      have hfw := Lib.hid (hfs.below hbl hb)
      have hGet := Lib.hid (fun w' hb' hf' => hget.out k b w' hao hlt hb' hf')
      have hnum := hsame.out k hlt
      rw [show dimN 1 = 3 from rfl] at hnum
      simp only [numsOf, plc] at hnum
      generalize F[k * 3]?.getD 0 = x at *
      generalize F[k * 3 + 1]?.getD 0 = y at *
      generalize fz 1 F (k * 3) = z at *
      generalize fm 1 F (k * 3) = mm at *
      simp at hnum
      have htake : Hid (F.take ((k + 1) * 3) = F.take (k * 3) ++ [x, y, z]) := Lib.hid (by rw [Nat.succ_mul, List.take_add, ← hnum])
      have htl := Lib.hid (show (F.take (k * 3)).length ≤ 10000 by rw [List.length_take, hF'.out]; omega)
      have hCG1 : ∀ t, (wr.heap.size + t = w.heap.size + 1 + 1 + 1) = False := fun t => by simp; omega
      have hCG2 : ∀ t, (w.heap.size + 1 + 1 + 1 = wr.heap.size + t) = False := fun t => by simp; omega
      subst hao
      obtain ⟨ao2, cap2, rfl, -, -, -⟩ := hown.sl
      clear hS hR hG hown hbl hsz hfs hnum
      generalize F.take (k * 3) = FT at *
      go_wp2_with (first | (go_at_call 135; refine (hlen.out _).mono ?_; rintro e w' ⟨rfl, hq⟩; obtain ⟨q0, rfl⟩ := gr_of_below hq; clear hq) | (go_at_call 91; refine Calls.mono (hGet.out _ ?_ ?_) ?_; (exact Nat.lt_of_lt_of_le hbw.out (gr_below _ _).size); (exact hfw.out.below (gr_below _ _) hbw.out); rintro e w' ⟨rfl, hq⟩; obtain ⟨q, rfl⟩ := gr_of_below hq; clear hq) | (go_at_call 136; go_in) | (go_at_call 137; go_in) | (at_builtin; refine wpList_append_f1 rfl _ _ _ rfl (by kernel_rfl) (w.heap.size + 4) (.slice ao2 FT.length cap2) (FT) rfl (World.ownsRow.alloc (World.ownsRow.alloc (hown'.out.keep (gr_below _ _)) _) _) _ 2 2 [x, y] rfl rfl (by omega) (fsAt_blk (Blk.new' _ _ _ _ (by simp [go_sem]))) (by have := htl.out; simp only [List.length_append, List.length_cons, List.length_nil]; omega) (by have := hsz'.out; simp [go_sem] <;> omega) ?_; intro v1 w1 ho1 hb1 hk1 hv1 hs1; obtain ⟨av1, cv1, rfl, -, -, -⟩ := ho1.sl; generalize List.length (FT ++ [x, y]) = nv1 at ho1 hv1 ⊢; have hG1 := (((hG'.out.gr _).alloc _).alloc _).below hb1 (by omega); have hC1 : Blk w1 (wr.heap.size + (rthen q0 q).os.size) #[.float .f64 x, .float .f64 y, .float .f64 z, .float .f64 mm, .int .u8 1] := ((Blk.new' _ _ _ _ (by simp [go_sem])).alloc _).of_same (hk1 _ (by simp [go_sem]) (fun e => by have := hown'.out.own_lt _ e; omega)); have hS1 := Lib.hid ((((hS'.out.gr _).alloc _).alloc _).below hb1 (by omega)); have hR1 := Lib.hid ((((hR'.out.gr _).alloc _).alloc _).below hb1 (by omega)); have own1 := Lib.hid ho1; have hbl1 : Hid (Below w.heap.size w w1) := Lib.hid (Below.trans (by have h1 := hbl'.out; have h2 := h1.size; repeat (first | exact h1 | (refine Below.alloc ?_ (by first | omega | (simp [go_sem] <;> omega)) _) | (refine below_gr' ?_ (by first | omega | (simp [go_sem] <;> omega))))) (hb1.mono (by omega))); have hnc1 : Hid (∀ k', (Value.slice av1 nv1 cv1).ownBlock = some k' → k' < wr.heap.size ∨ (wr.heap.size + (rthen q0 q).os.size) < k') := Lib.hid (fun k' e => by rcases hv1 k' e with h | h; exact .inl (hown'.out.own_lt _ h); (right; rw [h]; simp [go_sem] <;> omega)); have hsz1 : Hid (w.heap.size + 4 ≤ w1.heap.size) := Lib.hid (by have := hsz'.out; have h6 : _ ≤ _ := hs1; simp [go_sem] at h6; omega); have hcG1 := hG1.cell; have hfG1 := hG1.frozen; have hcC1 := hC1.cell; have hlG1 := hG1.lt; have hlC1 := hC1.lt; clear hb1 hk1 hv1 hs1 ho1) | (at_builtin; refine wpList_append_f1 rfl _ _ _ rfl (by kernel_rfl) (w.heap.size + 4) (.slice av1 nv1 cv1) (FT ++ [x, y]) rfl (World.ownsRow.alloc (own1.out.setCell (by omega)) _) _ 1 1 [z] rfl rfl (by omega) (fsAt_blk (Blk.new' _ _ _ _ (by simp [World.setCell]))) (by have := htl.out; simp only [List.length_append, List.length_cons, List.length_nil]; omega) (by have := hsz1.out; simp [World.setCell] <;> omega) ?_; intro v2 w2 ho2 hb2 hk2 hv2 hs2; obtain ⟨av2, cv2, rfl, -, -, -⟩ := ho2.sl; generalize List.length (FT ++ [x, y] ++ [z]) = nv2 at ho2 hv2 ⊢; have hG2 := ((hG1.setCell_eq rfl).alloc _).below hb2 (by omega); have hC2 : Blk w2 (wr.heap.size + (rthen q0 q).os.size) #[.float .f64 x, .float .f64 y, .float .f64 z, .float .f64 mm, .int .u8 1] := ((hC1.setCell_ne (by show (wr.heap.size + (rthen q0 q).os.size) ≠ (w.heap.size + 1 + 1 + 1); omega) _).alloc _).of_same (hk2 _ (by have := hC1.lt; simp [World.setCell] <;> omega) (fun e => by have h5 := hnc1.out _ e; omega)); have hS2 := Lib.hid (((hS1.out.setCell_ne (by show w.heap.size ≠ (w.heap.size + 1 + 1 + 1); omega) _).alloc _).below hb2 (by omega)); have hR2 := Lib.hid (((hR1.out.setCell_ne (by show w.heap.size + 1 ≠ (w.heap.size + 1 + 1 + 1); omega) _).alloc _).below hb2 (by omega)); have own2 := Lib.hid ho2; have hbl2 : Hid (Below w.heap.size w w2) := Lib.hid (Below.trans ((hbl1.out.setCell (by show w.heap.size ≤ (w.heap.size + 1 + 1 + 1); omega) _).alloc (by have := hsz1.out; simp [World.setCell] <;> omega) _) (hb2.mono (by omega))); have hnc2 : Hid (∀ k', (Value.slice av2 nv2 cv2).ownBlock = some k' → k' < wr.heap.size ∨ (wr.heap.size + (rthen q0 q).os.size) < k') := Lib.hid (fun k' e => by rcases hv2 k' e with h | h; exact hnc1.out _ h; (right; rw [h]; have := hC1.lt; simp [World.setCell] <;> omega)); have hsz2 : Hid (w.heap.size + 4 ≤ w2.heap.size) := Lib.hid (by have := hsz1.out; have h6 : _ ≤ _ := hs2; simp [World.setCell] at h6; omega); have hcG2 := hG2.cell; have hfG2 := hG2.frozen; have hcC2 := hC2.cell; have hlG2 := hG2.lt; have hlC2 := hC2.lt; clear hb2 hk2 hv2 hs2 ho2))
      go_roundw
      case rel =>
        repeat apply Exists.intro
        refine ⟨?_, rfl⟩
        exact ⟨k + 1, _, by omega, by go_num, hS2.out.setCell_ne (by show w.heap.size ≠ (w.heap.size + 1 + 1 + 1); omega) _, hR2.out.setCell_ne (by show w.heap.size + 1 ≠ (w.heap.size + 1 + 1 + 1); omega) _, hG2.setCell_eq rfl, by rw [htake.out]; simpa using own2.out.setCell (by omega), hbl2.out.setCell (by show w.heap.size ≤ (w.heap.size + 1 + 1 + 1); omega) _, by simpa [World.setCell] using hsz2.out⟩
      case measure => simp [intOf]; omega
    · have hkn : k = n := by omega
      subst hkn
      have htk : F.take (k * 3) = F := by rw [hn, ← hF'.out, List.take_length]
      rw [htk] at hown hown'
      obtain ⟨ao2, cap2, rfl, hf2, hn2, hk2⟩ := hown.sl
      have hf2' := Lib.hid hf2
      have hn2' := Lib.hid hn2
      have hk2' := Lib.hid hk2
      rw [hF'.out] at hcG
      clear hS hG hown hown' hbl hf2 hn2 hk2 htk hG'
      have hcR := hR.cell
      have hfR := hR.frozen
      clear hR
      go_wp2_with (go_at_call 135; refine (hlen.out _).mono ?_; rintro e w' ⟨rfl, hq⟩; obtain ⟨q0, rfl⟩ := gr_of_below hq; clear hq)
      have hsc : ∀ (w : World) (a : Addr) (v : Value), (w.setCell a v).heap.size = w.heap.size := fun _ _ _ => by simp [World.setCell]
      refine bodyPost_ret (v := .agg #[.int .i64 2, .int .i64 1, .slice ao2 L cap2, .slice none 0 0]) (by simp [results, Try.results92, go_sem, hcR, hsc, hlR]) rfl ⟨⟨_, rfl, ao2, cap2, by rw [hF'.out], ?_, hn2'.out, fun b h => by have := hk2'.out b h; omega⟩, ?_⟩
      · exact ((((hf2'.out.setCell hk2'.out (by omega)).setCell hk2'.out (by omega)).setCell hk2'.out (by omega)).setCell hk2'.out (by omega)).below (gr_below _ _)
      · exact below_gr' ((((hbl'.out.setCell (by show w.heap.size ≤ w.heap.size + 1; omega) _).setCell (by show w.heap.size ≤ w.heap.size + 1; omega) _).setCell (by show w.heap.size ≤ w.heap.size + 1; omega) _).setCell (by show w.heap.size ≤ w.heap.size + 1; omega) _) (by have := hbl'.out.size; simpa [World.setCell] using this)

set_option maxRecDepth 8000 in
set_option maxHeartbeats 4000000 in
theorem plain_2 (ao : Option Addr) (cap n L : Nat) (F : List Nat) (hn : n * 3 = L) (hF : F.length = L) (hl : (L : Int) ≤ 10000) (w : World) (hc : Fs0 w ao F) :
    Calls Try.prog 92 #[.agg #[.int .u8 2, .slice ao L cap]] w fun en w' => (∃ v, en = .returned (.agg #[.int .i64 2, .int .i64 2, v, .slice none 0 0]) ∧ SlK w.heap.size F v w') ∧ Below w.heap.size w w' := by
  have hd : D4 2 := by unfold D4; omega
  have hlen := Lib.hid (fun w' => length_ao hd ao L cap (by omega) w')
  rw [show dimN 2 = 3 from rfl, ← hn, Nat.mul_div_cancel _ (by omega : 0 < 3), hn] at hlen
  have hget := Lib.hid (fun k b w' (hao : ao = some ⟨b, 0, none⟩) (hk : k < n) (hb : b < w'.heap.size) (hf : FsAt w' b 0 F) => get_any hd b cap k (k * 3) F rfl (by rw [show dimN 2 = 3 from rfl]; omega) (by omega) w' hb hf)
  rw [hF] at hget
  have hsame := Lib.hid (fun k (hk : k < n) => numsOf_same hd F (k * 3) (by rw [show dimN 2 = 3 from rfl]; omega))
  have hc' := Lib.hid hc
  have hF' := Lib.hid hF
  clear hc hF
  unfold seqV coV at hget
  go_enter Try.func92, Try.ntmps92
  go_wp2_with (go_at_call 134; go_in)
  go_loopw [4] (fun i wr => ∃ (k : Nat) (v : Value), k ≤ n ∧ i = .int .i64 k ∧ Blk wr w.heap.size #[.int .u8 2, .slice ao L cap] ∧ Blk wr (w.heap.size + 1) #[.int .i64 0, .int .i64 0, .slice none 0 0, .slice none 0 0] ∧ Blk wr (w.heap.size + 1 + 1 + 1) #[.int .i64 2, .int .i64 2, v, .slice none 0 0] ∧ OwnF wr (w.heap.size + 4) v (F.take (k * 3)) ∧ Below w.heap.size w wr ∧ w.heap.size + 4 ≤ wr.heap.size) (fun i _ => n - (intOf i).toNat)
  case atStart => exact ⟨0, _, Nat.zero_le _, rfl, (((Blk.new _ _ _).alloc _).alloc _).alloc _, ((Blk.new' _ _ _ _ (by simp)).alloc _).alloc _, Blk.new' _ _ _ _ (by simp), by rw [Nat.zero_mul, List.take_zero]; exact OwnF.nil _ _, (by repeat (first | exact Below.refl _ _ | (refine below_gr' ?_ (by first | omega | (simp [go_sem] <;> omega))) | (refine Below.alloc ?_ (by first | omega | (simp [go_sem] <;> omega)) _) | refine Below.drew ?_ | (refine Below.setCell ?_ (by first | omega | (simp [go_sem] <;> omega)) _))), by simp⟩
  case round =>
    obtain ⟨k, v, hk, rfl, hS, hR, hG, hown, hbl, hsz⟩ := hrel
    have hS' := Lib.hid hS
    have hR' := Lib.hid hR
    have hG' := Lib.hid hG
    have hown' := Lib.hid hown
    have hbl' := Lib.hid hbl
    have hsz' := Lib.hid hsz
    have hcS := hS.cell
    have hlS := hS.lt
    have hcG := hG.cell
    have hfG := hG.frozen
    have hlG := hG.lt
    have hlR := hR.lt
    by_cases hlt : k < n
    · obtain ⟨b, hao, hb, hfs⟩ := hc'.out (by rw [hF'.out]; omega)
      have hbw := Lib.hid (Nat.lt_of_lt_of_le hb hbl.size)
      have hfw := Lib.hid (hfs.below hbl hb)
      have hGet := Lib.hid (fun w' hb' hf' => hget.out k b w' hao hlt hb' hf')
      have hnum := hsame.out k hlt
      rw [show dimN 2 = 3 from rfl] at hnum
      simp only [numsOf, plc] at hnum
      generalize F[k * 3]?.getD 0 = x at *
      generalize F[k * 3 + 1]?.getD 0 = y at *
      generalize fz 2 F (k * 3) = z at *
      generalize fm 2 F (k * 3) = mm at *
      simp at hnum
      have htake : Hid (F.take ((k + 1) * 3) = F.take (k * 3) ++ [x, y, mm]) := Lib.hid (by rw [Nat.succ_mul, List.take_add, ← hnum])
      have htl := Lib.hid (show (F.take (k * 3)).length ≤ 10000 by rw [List.length_take, hF'.out]; omega)
      have hCG1 : ∀ t, (wr.heap.size + t = w.heap.size + 1 + 1 + 1) = False := fun t => by simp; omega
      have hCG2 : ∀ t, (w.heap.size + 1 + 1 + 1 = wr.heap.size + t) = False := fun t => by simp; omega
      subst hao
      obtain ⟨ao2, cap2, rfl, -, -, -⟩ := hown.sl
      clear hS hR hG hown hbl hsz hfs hnum
      generalize F.take (k * 3) = FT at *
      go_wp2_with (first | (go_at_call 135; refine (hlen.out _).mono ?_; rintro e w' ⟨rfl, hq⟩; obtain ⟨q0, rfl⟩ := gr_of_below hq; clear hq) | (go_at_call 91; refine Calls.mono (hGet.out _ ?_ ?_) ?_; (exact Nat.lt_of_lt_of_le hbw.out (gr_below _ _).size); (exact hfw.out.below (gr_below _ _) hbw.out); rintro e w' ⟨rfl, hq⟩; obtain ⟨q, rfl⟩ := gr_of_below hq; clear hq) | (go_at_call 136; go_in) | (go_at_call 137; go_in) | (at_builtin; refine wpList_append_f1 rfl _ _ _ rfl (by kernel_rfl) (w.heap.size + 4) (.slice ao2 FT.length cap2) (FT) rfl (World.ownsRow.alloc (World.ownsRow.alloc (hown'.out.keep (gr_below _ _)) _) _) _ 2 2 [x, y] rfl rfl (by omega) (fsAt_blk (Blk.new' _ _ _ _ (by simp [go_sem]))) (by have := htl.out; simp only [List.length_append, List.length_cons, List.length_nil]; omega) (by have := hsz'.out; simp [go_sem] <;> omega) ?_; intro v1 w1 ho1 hb1 hk1 hv1 hs1; obtain ⟨av1, cv1, rfl, -, -, -⟩ := ho1.sl; generalize List.length (FT ++ [x, y]) = nv1 at ho1 hv1 ⊢; have hG1 := (((hG'.out.gr _).alloc _).alloc _).below hb1 (by omega); have hC1 : Blk w1 (wr.heap.size + (rthen q0 q).os.size) #[.float .f64 x, .float .f64 y, .float .f64 z, .float .f64 mm, .int .u8 2] := ((Blk.new' _ _ _ _ (by simp [go_sem])).alloc _).of_same (hk1 _ (by simp [go_sem]) (fun e => by have := hown'.out.own_lt _ e; omega)); have hS1 := Lib.hid ((((hS'.out.gr _).alloc _).alloc _).below hb1 (by omega)); have hR1 := Lib.hid ((((hR'.out.gr _).alloc _).alloc _).below hb1 (by omega)); have own1 := Lib.hid ho1; have hbl1 : Hid (Below w.heap.size w w1) := Lib.hid (Below.trans (by have h1 := hbl'.out; have h2 := h1.size; repeat (first | exact h1 | (refine Below.alloc ?_ (by first | omega | (simp [go_sem] <;> omega)) _) | (refine below_gr' ?_ (by first | omega | (simp [go_sem] <;> omega))))) (hb1.mono (by omega))); have hnc1 : Hid (∀ k', (Value.slice av1 nv1 cv1).ownBlock = some k' → k' < wr.heap.size ∨ (wr.heap.size + (rthen q0 q).os.size) < k') := Lib.hid (fun k' e => by rcases hv1 k' e with h | h; exact .inl (hown'.out.own_lt _ h); (right; rw [h]; simp [go_sem] <;> omega)); have hsz1 : Hid (w.heap.size + 4 ≤ w1.heap.size) := Lib.hid (by have := hsz'.out; have h6 : _ ≤ _ := hs1; simp [go_sem] at h6; omega); have hcG1 := hG1.cell; have hfG1 := hG1.frozen; have hcC1 := hC1.cell; have hlG1 := hG1.lt; have hlC1 := hC1.lt; clear hb1 hk1 hv1 hs1 ho1) | (at_builtin; refine wpList_append_f1 rfl _ _ _ rfl (by kernel_rfl) (w.heap.size + 4) (.slice av1 nv1 cv1) (FT ++ [x, y]) rfl (World.ownsRow.alloc (own1.out.setCell (by omega)) _) _ 1 1 [mm] rfl rfl (by omega) (fsAt_blk (Blk.new' _ _ _ _ (by simp [World.setCell]))) (by have := htl.out; simp only [List.length_append, List.length_cons, List.length_nil]; omega) (by have := hsz1.out; simp [World.setCell] <;> omega) ?_; intro v2 w2 ho2 hb2 hk2 hv2 hs2; obtain ⟨av2, cv2, rfl, -, -, -⟩ := ho2.sl; generalize List.length (FT ++ [x, y] ++ [mm]) = nv2 at ho2 hv2 ⊢; have hG2 := ((hG1.setCell_eq rfl).alloc _).below hb2 (by omega); have hC2 : Blk w2 (wr.heap.size + (rthen q0 q).os.size) #[.float .f64 x, .float .f64 y, .float .f64 z, .float .f64 mm, .int .u8 2] := ((hC1.setCell_ne (by show (wr.heap.size + (rthen q0 q).os.size) ≠ (w.heap.size + 1 + 1 + 1); omega) _).alloc _).of_same (hk2 _ (by have := hC1.lt; simp [World.setCell] <;> omega) (fun e => by have h5 := hnc1.out _ e; omega)); have hS2 := Lib.hid (((hS1.out.setCell_ne (by show w.heap.size ≠ (w.heap.size + 1 + 1 + 1); omega) _).alloc _).below hb2 (by omega)); have hR2 := Lib.hid (((hR1.out.setCell_ne (by show w.heap.size + 1 ≠ (w.heap.size + 1 + 1 + 1); omega) _).alloc _).below hb2 (by omega)); have own2 := Lib.hid ho2; have hbl2 : Hid (Below w.heap.size w w2) := Lib.hid (Below.trans ((hbl1.out.setCell (by show w.heap.size ≤ (w.heap.size + 1 + 1 + 1); omega) _).alloc (by have := hsz1.out; simp [World.setCell] <;> omega) _) (hb2.mono (by omega))); have hnc2 : Hid (∀ k', (Value.slice av2 nv2 cv2).ownBlock = some k' → k' < wr.heap.size ∨ (wr.heap.size + (rthen q0 q).os.size) < k') := Lib.hid (fun k' e => by rcases hv2 k' e with h | h; exact hnc1.out _ h; (right; rw [h]; have := hC1.lt; simp [World.setCell] <;> omega)); have hsz2 : Hid (w.heap.size + 4 ≤ w2.heap.size) := Lib.hid (by have := hsz1.out; have h6 : _ ≤ _ := hs2; simp [World.setCell] at h6; omega); have hcG2 := hG2.cell; have hfG2 := hG2.frozen; have hcC2 := hC2.cell; have hlG2 := hG2.lt; have hlC2 := hC2.lt; clear hb2 hk2 hv2 hs2 ho2))
      go_roundw
      case rel =>
        repeat apply Exists.intro
        refine ⟨?_, rfl⟩
        exact ⟨k + 1, _, by omega, by go_num, hS2.out.setCell_ne (by show w.heap.size ≠ (w.heap.size + 1 + 1 + 1); omega) _, hR2.out.setCell_ne (by show w.heap.size + 1 ≠ (w.heap.size + 1 + 1 + 1); omega) _, hG2.setCell_eq rfl, by rw [htake.out]; simpa using own2.out.setCell (by omega), hbl2.out.setCell (by show w.heap.size ≤ (w.heap.size + 1 + 1 + 1); omega) _, by simpa [World.setCell] using hsz2.out⟩
      case measure => simp [intOf]; omega
    · have hkn : k = n := by omega
      subst hkn
      have htk : F.take (k * 3) = F := by rw [hn, ← hF'.out, List.take_length]
      rw [htk] at hown hown'
      obtain ⟨ao2, cap2, rfl, hf2, hn2, hk2⟩ := hown.sl
      have hf2' := Lib.hid hf2
      have hn2' := Lib.hid hn2
      have hk2' := Lib.hid hk2
      rw [hF'.out] at hcG
      clear hS hG hown hown' hbl hf2 hn2 hk2 htk hG'
      have hcR := hR.cell
      have hfR := hR.frozen
      clear hR
      go_wp2_with (go_at_call 135; refine (hlen.out _).mono ?_; rintro e w' ⟨rfl, hq⟩; obtain ⟨q0, rfl⟩ := gr_of_below hq; clear hq)
      have hsc : ∀ (w : World) (a : Addr) (v : Value), (w.setCell a v).heap.size = w.heap.size := fun _ _ _ => by simp [World.setCell]
      refine bodyPost_ret (v := .agg #[.int .i64 2, .int .i64 2, .slice ao2 L cap2, .slice none 0 0]) (by simp [results, Try.results92, go_sem, hcR, hsc, hlR]) rfl ⟨⟨_, rfl, ao2, cap2, by rw [hF'.out], ?_, hn2'.out, fun b h => by have := hk2'.out b h; omega⟩, ?_⟩
      · exact ((((hf2'.out.setCell hk2'.out (by omega)).setCell hk2'.out (by omega)).setCell hk2'.out (by omega)).setCell hk2'.out (by omega)).below (gr_below _ _)
      · exact below_gr' ((((hbl'.out.setCell (by show w.heap.size ≤ w.heap.size + 1; omega) _).setCell (by show w.heap.size ≤ w.heap.size + 1; omega) _).setCell (by show w.heap.size ≤ w.heap.size + 1; omega) _).setCell (by show w.heap.size ≤ w.heap.size + 1; omega) _) (by have := hbl'.out.size; simpa [World.setCell] using this)

set_option maxRecDepth 8000 in
set_option maxHeartbeats 4000000 in
theorem plain_3 (ao : Option Addr) (cap n L : Nat) (F : List Nat) (hn : n * 4 = L) (hF : F.length = L) (hl : (L : Int) ≤ 10000) (w : World) (hc : Fs0 w ao F) :
    Calls Try.prog 92 #[.agg #[.int .u8 3, .slice ao L cap]] w fun en w' => (∃ v, en = .returned (.agg #[.int .i64 2, .int .i64 3, v, .slice none 0 0]) ∧ SlK w.heap.size F v w') ∧ Below w.heap.size w w' := by
  have hd : D4 3 := by unfold D4; omega
  have hlen := Lib.hid (fun w' => length_ao hd ao L cap (by omega) w')
  rw [show dimN 3 = 4 from rfl, ← hn, Nat.mul_div_cancel _ (by omega : 0 < 4), hn] at hlen
  have hget := Lib.hid (fun k b w' (hao : ao = some ⟨b, 0, none⟩) (hk : k < n) (hb : b < w'.heap.size) (hf : FsAt w' b 0 F) => get_any hd b cap k (k * 4) F rfl (by rw [show dimN 3 = 4 from rfl]; omega) (by omega) w' hb hf)
  rw [hF] at hget
  have hsame := Lib.hid (fun k (hk : k < n) => numsOf_same hd F (k * 4) (by rw [show dimN 3 = 4 from rfl]; omega))
  have hc' := Lib.hid hc
  have hF' := Lib.hid hF
  clear hc hF
  unfold seqV coV at hget
  go_enter Try.func92, Try.ntmps92
  go_wp2_with (go_at_call 134; go_in)
  go_loopw [4] (fun i wr => ∃ (k : Nat) (v : Value), k ≤ n ∧ i = .int .i64 k ∧ Blk wr w.heap.size #[.int .u8 3, .slice ao L cap] ∧ Blk wr (w.heap.size + 1) #[.int .i64 0, .int .i64 0, .slice none 0 0, .slice none 0 0] ∧ Blk wr (w.heap.size + 1 + 1 + 1) #[.int .i64 2, .int .i64 3, v, .slice none 0 0] ∧ OwnF wr (w.heap.size + 4) v (F.take (k * 4)) ∧ Below w.heap.size w wr ∧ w.heap.size + 4 ≤ wr.heap.size) (fun i _ => n - (intOf i).toNat)
  case atStart => exact ⟨0, _, Nat.zero_le _, rfl, (((Blk.new _ _ _).alloc _).alloc _).alloc _, ((Blk.new' _ _ _ _ (by simp)).alloc _).alloc _, Blk.new' _ _ _ _ (by simp), by rw [Nat.zero_mul, List.take_zero]; exact OwnF.nil _ _, (by repeat (first | exact Below.refl _ _ | (refine below_gr' ?_ (by first | omega | (simp [go_sem] <;> omega))) | (refine Below.alloc ?_ (by first | omega | (simp [go_sem] <;> omega)) _) | refine Below.drew ?_ | (refine Below.setCell ?_ (by first | omega | (simp [go_sem] <;> omega)) _))), by simp⟩
  case round =>
    obtain ⟨k, v, hk, rfl, hS, hR, hG, hown, hbl, hsz⟩ := hrel
    have hS' := Lib.hid hS
    have hR' := Lib.hid hR
    have hG' := Lib.hid hG
    have hown' := Lib.hid hown
    have hbl' := Lib.hid hbl
    have hsz' := Lib.hid hsz
    have hcS := hS.cell
    have hlS := hS.lt
    have hcG := hG.cell
    have hfG := hG.frozen
    have hlG := hG.lt
    have hlR := hR.lt
    by_cases hlt : k < n
    · obtain ⟨b, hao, hb, hfs⟩ := hc'.out (by rw [hF'.out]; omega)
      have hbw := Lib.hid (Nat.lt_of_lt_of_le hb hbl.size)
      have hfw := Lib.hid (hfs.below hbl hb)
      have hGet := Lib.hid (fun w' hb' hf' => hget.out k b w' hao hlt hb' hf')
      have hnum := hsame.out k hlt
      rw [show dimN 3 = 4 from rfl] at hnum
      simp only [numsOf, plc] at hnum
      generalize F[k * 4]?.getD 0 = x at *
      generalize F[k * 4 + 1]?.getD 0 = y at *
      generalize fz 3 F (k * 4) = z at *
      generalize fm 3 F (k * 4) = mm at *
      simp at hnum
      have htake : Hid (F.take ((k + 1) * 4) = F.take (k * 4) ++ [x, y, z, mm]) := Lib.hid (by rw [Nat.succ_mul, List.take_add, ← hnum])
      have htl := Lib.hid (show (F.take (k * 4)).length ≤ 10000 by rw [List.length_take, hF'.out]; omega)
      have hCG1 : ∀ t, (wr.heap.size + t = w.heap.size + 1 + 1 + 1) = False := fun t => by simp; omega
      have hCG2 : ∀ t, (w.heap.size + 1 + 1 + 1 = wr.heap.size + t) = False := fun t => by simp; omega
      subst hao
      obtain ⟨ao2, cap2, rfl, -, -, -⟩ := hown.sl
      clear hS hR hG hown hbl hsz hfs hnum
      generalize F.take (k * 4) = FT at *
      go_wp2_with (first | (go_at_call 135; refine (hlen.out _).mono ?_; rintro e w' ⟨rfl, hq⟩; obtain ⟨q0, rfl⟩ := gr_of_below hq; clear hq) | (go_at_call 91; refine Calls.mono (hGet.out _ ?_ ?_) ?_; (exact Nat.lt_of_lt_of_le hbw.out (gr_below _ _).size); (exact hfw.out.below (gr_below _ _) hbw.out); rintro e w' ⟨rfl, hq⟩; obtain ⟨q, rfl⟩ := gr_of_below hq; clear hq) | (go_at_call 136; go_in) | (go_at_call 137; go_in) | (at_builtin; refine wpList_append_f1 rfl _ _ _ rfl (by kernel_rfl) (w.heap.size + 4) (.slice ao2 FT.length cap2) (FT) rfl (World.ownsRow.alloc (World.ownsRow.alloc (hown'.out.keep (gr_below _ _)) _) _) _ 2 2 [x, y] rfl rfl (by omega) (fsAt_blk (Blk.new' _ _ _ _ (by simp [go_sem]))) (by have := htl.out; simp only [List.length_append, List.length_cons, List.length_nil]; omega) (by have := hsz'.out; simp [go_sem] <;> omega) ?_; intro v1 w1 ho1 hb1 hk1 hv1 hs1; obtain ⟨av1, cv1, rfl, -, -, -⟩ := ho1.sl; generalize List.length (FT ++ [x, y]) = nv1 at ho1 hv1 ⊢; have hG1 := (((hG'.out.gr _).alloc _).alloc _).below hb1 (by omega); have hC1 : Blk w1 (wr.heap.size + (rthen q0 q).os.size) #[.float .f64 x, .float .f64 y, .float .f64 z, .float .f64 mm, .int .u8 3] := ((Blk.new' _ _ _ _ (by simp [go_sem])).alloc _).of_same (hk1 _ (by simp [go_sem]) (fun e => by have := hown'.out.own_lt _ e; omega)); have hS1 := Lib.hid ((((hS'.out.gr _).alloc _).alloc _).below hb1 (by omega)); have hR1 := Lib.hid ((((hR'.out.gr _).alloc _).alloc _).below hb1 (by omega)); have own1 := Lib.hid ho1; have hbl1 : Hid (Below w.heap.size w w1) := Lib.hid (Below.trans (by have h1 := hbl'.out; have h2 := h1.size; repeat (first | exact h1 | (refine Below.alloc ?_ (by first | omega | (simp [go_sem] <;> omega)) _) | (refine below_gr' ?_ (by first | omega | (simp [go_sem] <;> omega))))) (hb1.mono (by omega))); have hnc1 : Hid (∀ k', (Value.slice av1 nv1 cv1).ownBlock = some k' → k' < wr.heap.size ∨ (wr.heap.size + (rthen q0 q).os.size) < k') := Lib.hid (fun k' e => by rcases hv1 k' e with h | h; exact .inl (hown'.out.own_lt _ h); (right; rw [h]; simp [go_sem] <;> omega)); have hsz1 : Hid (w.heap.size + 4 ≤ w1.heap.size) := Lib.hid (by have := hsz'.out; have h6 : _ ≤ _ := hs1; simp [go_sem] at h6; omega); have hcG1 := hG1.cell; have hfG1 := hG1.frozen; have hcC1 := hC1.cell; have hlG1 := hG1.lt; have hlC1 := hC1.lt; clear hb1 hk1 hv1 hs1 ho1) | (at_builtin; refine wpList_append_f1 rfl _ _ _ rfl (by kernel_rfl) (w.heap.size + 4) (.slice av1 nv1 cv1) (FT ++ [x, y]) rfl (World.ownsRow.alloc (own1.out.setCell (by omega)) _) _ 1 1 [z] rfl rfl (by omega) (fsAt_blk (Blk.new' _ _ _ _ (by simp [World.setCell]))) (by have := htl.out; simp only [List.length_append, List.length_cons, List.length_nil]; omega) (by have := hsz1.out; simp [World.setCell] <;> omega) ?_; intro v2 w2 ho2 hb2 hk2 hv2 hs2; obtain ⟨av2, cv2, rfl, -, -, -⟩ := ho2.sl; generalize List.length (FT ++ [x, y] ++ [z]) = nv2 at ho2 hv2 ⊢; have hG2 := ((hG1.setCell_eq rfl).alloc _).below hb2 (by omega); have hC2 : Blk w2 (wr.heap.size + (rthen q0 q).os.size) #[.float .f64 x, .float .f64 y, .float .f64 z, .float .f64 mm, .int .u8 3] := ((hC1.setCell_ne (by show (wr.heap.size + (rthen q0 q).os.size) ≠ (w.heap.size + 1 + 1 + 1); omega) _).alloc _).of_same (hk2 _ (by have := hC1.lt; simp [World.setCell] <;> omega) (fun e => by have h5 := hnc1.out _ e; omega)); have hS2 := Lib.hid (((hS1.out.setCell_ne (by show w.heap.size ≠ (w.heap.size + 1 + 1 + 1); omega) _).alloc _).below hb2 (by omega)); have hR2 := Lib.hid (((hR1.out.setCell_ne (by show w.heap.size + 1 ≠ (w.heap.size + 1 + 1 + 1); omega) _).alloc _).below hb2 (by omega)); have own2 := Lib.hid ho2; have hbl2 : Hid (Below w.heap.size w w2) := Lib.hid (Below.trans ((hbl1.out.setCell (by show w.heap.size ≤ (w.heap.size + 1 + 1 + 1); omega) _).alloc (by have := hsz1.out; simp [World.setCell] <;> omega) _) (hb2.mono (by omega))); have hnc2 : Hid (∀ k', (Value.slice av2 nv2 cv2).ownBlock = some k' → k' < wr.heap.size ∨ (wr.heap.size + (rthen q0 q).os.size) < k') := Lib.hid (fun k' e => by rcases hv2 k' e with h | h; exact hnc1.out _ h; (right; rw [h]; have := hC1.lt; simp [World.setCell] <;> omega)); have hsz2 : Hid (w.heap.size + 4 ≤ w2.heap.size) := Lib.hid (by have := hsz1.out; have h6 : _ ≤ _ := hs2; simp [World.setCell] at h6; omega); have hcG2 := hG2.cell; have hfG2 := hG2.frozen; have hcC2 := hC2.cell; have hlG2 := hG2.lt; have hlC2 := hC2.lt; clear hb2 hk2 hv2 hs2 ho2) | (at_builtin; refine wpList_append_f1 rfl _ _ _ rfl (by kernel_rfl) (w.heap.size + 4) (.slice av2 nv2 cv2) (FT ++ [x, y] ++ [z]) rfl (World.ownsRow.alloc (own2.out.setCell (by omega)) _) _ 1 1 [mm] rfl rfl (by omega) (fsAt_blk (Blk.new' _ _ _ _ (by simp [World.setCell]))) (by have := htl.out; simp only [List.length_append, List.length_cons, List.length_nil]; omega) (by have := hsz2.out; simp [World.setCell] <;> omega) ?_; intro v3 w3 ho3 hb3 hk3 hv3 hs3; obtain ⟨av3, cv3, rfl, -, -, -⟩ := ho3.sl; generalize List.length (FT ++ [x, y] ++ [z] ++ [mm]) = nv3 at ho3 hv3 ⊢; have hG3 := ((hG2.setCell_eq rfl).alloc _).below hb3 (by omega); have hC3 : Blk w3 (wr.heap.size + (rthen q0 q).os.size) #[.float .f64 x, .float .f64 y, .float .f64 z, .float .f64 mm, .int .u8 3] := ((hC2.setCell_ne (by show (wr.heap.size + (rthen q0 q).os.size) ≠ (w.heap.size + 1 + 1 + 1); omega) _).alloc _).of_same (hk3 _ (by have := hC2.lt; simp [World.setCell] <;> omega) (fun e => by have h5 := hnc2.out _ e; omega)); have hS3 := Lib.hid (((hS2.out.setCell_ne (by show w.heap.size ≠ (w.heap.size + 1 + 1 + 1); omega) _).alloc _).below hb3 (by omega)); have hR3 := Lib.hid (((hR2.out.setCell_ne (by show w.heap.size + 1 ≠ (w.heap.size + 1 + 1 + 1); omega) _).alloc _).below hb3 (by omega)); have own3 := Lib.hid ho3; have hbl3 : Hid (Below w.heap.size w w3) := Lib.hid (Below.trans ((hbl2.out.setCell (by show w.heap.size ≤ (w.heap.size + 1 + 1 + 1); omega) _).alloc (by have := hsz2.out; simp [World.setCell] <;> omega) _) (hb3.mono (by omega))); have hnc3 : Hid (∀ k', (Value.slice av3 nv3 cv3).ownBlock = some k' → k' < wr.heap.size ∨ (wr.heap.size + (rthen q0 q).os.size) < k') := Lib.hid (fun k' e => by rcases hv3 k' e with h | h; exact hnc2.out _ h; (right; rw [h]; have := hC2.lt; simp [World.setCell] <;> omega)); have hsz3 : Hid (w.heap.size + 4 ≤ w3.heap.size) := Lib.hid (by have := hsz2.out; have h6 : _ ≤ _ := hs3; simp [World.setCell] at h6; omega); have hcG3 := hG3.cell; have hfG3 := hG3.frozen; have hcC3 := hC3.cell; have hlG3 := hG3.lt; have hlC3 := hC3.lt; clear hb3 hk3 hv3 hs3 ho3))
      go_roundw
      case rel =>
        repeat apply Exists.intro
        refine ⟨?_, rfl⟩
        exact ⟨k + 1, _, by omega, by go_num, hS3.out.setCell_ne (by show w.heap.size ≠ (w.heap.size + 1 + 1 + 1); omega) _, hR3.out.setCell_ne (by show w.heap.size + 1 ≠ (w.heap.size + 1 + 1 + 1); omega) _, hG3.setCell_eq rfl, by rw [htake.out]; simpa using own3.out.setCell (by omega), hbl3.out.setCell (by show w.heap.size ≤ (w.heap.size + 1 + 1 + 1); omega) _, by simpa [World.setCell] using hsz3.out⟩
      case measure => simp [intOf]; omega
    · have hkn : k = n := by omega
      subst hkn
      have htk : F.take (k * 4) = F := by rw [hn, ← hF'.out, List.take_length]
      rw [htk] at hown hown'
      obtain ⟨ao2, cap2, rfl, hf2, hn2, hk2⟩ := hown.sl
      have hf2' := Lib.hid hf2
      have hn2' := Lib.hid hn2
      have hk2' := Lib.hid hk2
      rw [hF'.out] at hcG
      clear hS hG hown hown' hbl hf2 hn2 hk2 htk hG'
      have hcR := hR.cell
      have hfR := hR.frozen
      clear hR
      go_wp2_with (go_at_call 135; refine (hlen.out _).mono ?_; rintro e w' ⟨rfl, hq⟩; obtain ⟨q0, rfl⟩ := gr_of_below hq; clear hq)
      have hsc : ∀ (w : World) (a : Addr) (v : Value), (w.setCell a v).heap.size = w.heap.size := fun _ _ _ => by simp [World.setCell]
      refine bodyPost_ret (v := .agg #[.int .i64 2, .int .i64 3, .slice ao2 L cap2, .slice none 0 0]) (by simp [results, Try.results92, go_sem, hcR, hsc, hlR]) rfl ⟨⟨_, rfl, ao2, cap2, by rw [hF'.out], ?_, hn2'.out, fun b h => by have := hk2'.out b h; omega⟩, ?_⟩
      · exact ((((hf2'.out.setCell hk2'.out (by omega)).setCell hk2'.out (by omega)).setCell hk2'.out (by omega)).setCell hk2'.out (by omega)).below (gr_below _ _)
      · exact below_gr' ((((hbl'.out.setCell (by show w.heap.size ≤ w.heap.size + 1; omega) _).setCell (by show w.heap.size ≤ w.heap.size + 1; omega) _).setCell (by show w.heap.size ≤ w.heap.size + 1; omega) _).setCell (by show w.heap.size ≤ w.heap.size + 1; omega) _) (by have := hbl'.out.size; simpa [World.setCell] using this)
end Go.Proofs.Ytpphfoggjejpiaa
