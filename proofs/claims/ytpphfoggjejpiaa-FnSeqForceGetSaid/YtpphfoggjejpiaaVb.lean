/-
  Lists of places and of numbers as arguments; places appended to a slice of the call's own. Conditions: as each theorem states them.
-/
import Derived.Test.YtpphfoggjejpiaaVa
import Derived.Test.YtpphfoggjejpiaaFr
import Derived.WalkKit
import Derived.Deep.Slices
namespace Go.Proofs.Ytpphfoggjejpiaa
open Go.RowKit Fl Go.Sort Go.ChangeShapes Go.WideShapes Go.ChangeAt

theorem addr_off (b off j : Nat) : (⟨b, off, none⟩ : Addr).add j = ⟨b, off + j, none⟩ := by unfold Addr.add; split <;> simp_all

/-- A slice of places: without any, or as many as there are. -/
def PtArg (w : World) (v : Value) (ps : List (Nat × Nat)) : Prop :=
  (ps = [] ∧ ∃ ao c, v = .slice ao 0 c) ∨ (0 < ps.length ∧ ∃ b off cap, v = .slice (some ⟨b, off, none⟩) ps.length cap ∧ b < w.heap.size ∧ PtsAt w b off ps)

theorem list_of {α : Type} {Q : Nat → α → Prop} (d : α) : ∀ (n : Nat), (∀ i, i < n → ∃ p, Q i p) → ∃ l : List α, l.length = n ∧ ∀ i, i < n → Q i (l[i]?.getD d)
  | 0, _ => ⟨[], rfl, fun i hi => absurd hi (Nat.not_lt_zero i)⟩
  | n + 1, h => by
    obtain ⟨l, h1, h2⟩ := list_of d n (fun i hi => h i (by omega))
    obtain ⟨p, hp⟩ := h n (by omega)
    refine ⟨l ++ [p], by simp [h1], fun i hi => ?_⟩
    by_cases hin : i < n
    · rw [List.getElem?_append_left (by omega)]
      exact h2 i hin
    · have : i = n := by omega
      subst this
      rw [List.getElem?_append_right (by omega), h1, Nat.sub_self]
      exact hp

section
variable {H : Type} {enc : TypeId × Value → H} {w : World} {base b0 : Nat} {spare : Nat → Bool} {held : Bool} {v : Value} {d : DataW H} {ps : List MemPlace} {r : Reach}

set_option maxRecDepth 100000 in
theorem open_pts (hval : Value.okWide Try.prog w r b0 26 v) (h : DataW.Trod enc Try.prog w base spare held 26 v d ps) :
    ∃ l : List (Nat × Nat), PtArg w v l ∧ (∀ p ∈ l, p.1 < 2 ^ 64 ∧ p.2 < 2 ^ 64) ∧ l.length ≤ maxLen := by
  obtain ⟨a0, len, cap, rfl⟩ := okWide_slice Try.underlying26 hval
  obtain ⟨fuel, hf⟩ := h
  rcases Go.Deep.open_slice Try.underlying26 hf with ⟨hcs, _⟩ | ⟨a, len', cap', m, n, D, Pl, hcs, _, hl, hcm, hm, _, hel⟩
  · simp only [Value.cells, List.cons.injEq, Value.slice.injEq, and_true] at hcs
    obtain ⟨rfl, rfl, rfl⟩ := hcs
    exact ⟨[], .inl ⟨rfl, _, _, rfl⟩, by simp, by simp⟩
  · simp only [Value.cells, List.cons.injEq, Value.slice.injEq, and_true] at hcs
    obtain ⟨rfl, rfl, rfl⟩ := hcs
    have hlm : len ≤ m := by rw [hm]; split <;> omega
    have hpt : ∀ i, i < len → ∃ p : Nat × Nat, (w.cell? (a.add (i * 2)) = some (.float .f64 p.1) ∧ w.cell? ((a.add (i * 2)).add 1) = some (.float .f64 p.2)) ∧ p.1 < 2 ^ 64 ∧ p.2 < 2 ^ 64 := by
      intro i hi
      obtain ⟨cs', h1, h2⟩ := hel i (by omega)
      rw [cellsXY] at h1
      obtain ⟨_, hlen, hc⟩ := World.cells?_some h1
      match cs', hlen with
      | [c0, c1], _ =>
        obtain ⟨y0, y1, n', hx, _, g0, g1⟩ := trod_struct2 Try.underlying24 h2
        simp only [show Try.prog.cellsOf 22 = 1 by kernel_rfl, List.drop_zero, List.take_succ_cons, List.take_zero, List.drop_succ_cons] at g0 g1
        obtain ⟨x, f0, _, wx⟩ := trod_float Try.underlying22 g0
        obtain ⟨y, f1, _, wy⟩ := trod_float Try.underlying22 g1
        simp only [List.cons.injEq, and_true] at f0 f1
        subst f0 f1
        have e0 : (a.add (i * 2)).add 0 = a.add (i * 2) := by unfold Addr.add; split <;> simp_all
        refine ⟨(x, y), ⟨?_, ?_⟩, f64_lt wx, f64_lt wy⟩
        · rw [← e0]; exact hc 0 (by omega)
        · exact hc 1 (by omega)
    obtain ⟨l, hll, hl2⟩ := list_of (0, 0) len hpt
    have hwl : ∀ p ∈ l, p.1 < 2 ^ 64 ∧ p.2 < 2 ^ 64 := by
      intro p hp
      obtain ⟨i, hi, rfl⟩ := List.mem_iff_getElem.1 hp
      have := (hl2 i (by omega)).2
      simpa [List.getElem?_eq_getElem hi] using this
    refine ⟨l, ?_, hwl, by omega⟩
    by_cases h0 : 0 < len
    · right
      obtain ⟨b, off, spot⟩ := a
      have hspot : spot = none := by
        have := (hl2 0 h0).1.1
        simpa [Addr.add] using World.cell?_spot this
      subst hspot
      refine ⟨by omega, b, off, cap, by rw [hll], ?_, fun i hi => ?_⟩
      · have := (hl2 0 h0).1.1
        rw [show (⟨b, off, none⟩ : Addr).add (0 * 2) = ⟨b, off + 0, none⟩ from rfl] at this
        exact World.block_lt_of_cell? w _ this
      · have := (hl2 i (by omega)).1
        rw [addr_off, addr_off] at this
        exact this
    · left
      have : len = 0 := by omega
      subst this
      exact ⟨List.eq_nil_of_length_eq_zero hll, _, _, rfl⟩

/-- A slice of whole numbers. -/
def IntArg (w : World) (v : Value) (zs : List Int) : Prop :=
  ∃ ao c, v = .slice ao zs.length c ∧ ∀ i, i < zs.length → ∃ b off, ao = some ⟨b, off, none⟩ ∧ b < w.heap.size ∧ w.cell? ⟨b, off + i, none⟩ = some (.int .i64 (zs[i]?.getD 0))

theorem cellsInt : Try.prog.cellsOf 3 = 1 := by kernel_rfl

set_option maxRecDepth 100000 in
theorem open_is (hval : Value.okWide Try.prog w r b0 49 v) (h : DataW.Trod enc Try.prog w base spare held 49 v d ps) :
    ∃ zs : List Int, IntArg w v zs ∧ ∀ z ∈ zs, -9223372036854775808 ≤ z ∧ z ≤ 9223372036854775807 := by
  obtain ⟨a0, len, cap, rfl⟩ := okWide_slice Try.underlying49 hval
  obtain ⟨fuel, hf⟩ := h
  rcases open_ints Try.underlying49 Try.underlying3 cellsInt hf with ⟨hcs, _⟩ | ⟨a, len', cap', zs, hcs, _, hl, hcm, hz, _, hcell, hwz⟩
  · simp only [Value.cells, List.cons.injEq, Value.slice.injEq, and_true] at hcs
    obtain ⟨rfl, rfl, rfl⟩ := hcs
    exact ⟨[], ⟨_, _, rfl, by simp⟩, by simp⟩
  · simp only [Value.cells, List.cons.injEq, Value.slice.injEq, and_true] at hcs
    obtain ⟨rfl, rfl, rfl⟩ := hcs
    have hlz : len ≤ zs.length := by rw [hz]; split <;> omega
    refine ⟨zs.take len, ⟨some a, cap, by simp [Nat.min_eq_left hlz], fun i hi => ?_⟩, fun z hz' => ?_⟩
    · have hi' : i < len := by simp at hi; omega
      obtain ⟨b, off, rfl, hc'⟩ := ints_at hcell (by omega)
      have hci := hc' i (by omega)
      refine ⟨b, off, rfl, World.block_lt_of_cell? w _ hci, ?_⟩
      rw [hci, List.getD_eq_getElem?_getD, List.getElem?_take_of_lt hi']
    · have := hwz z (List.mem_of_mem_take hz')
      simpa [Lit.wf, IntKind.min, IntKind.max, IntKind.signed, IntKind.bits] using this
end

/-- A slice of the call's own that holds places. -/
def OwnP (w : World) (base : Nat) (v : Value) (ps : List (Nat × Nat)) : Prop := w.ownsRow base 24 2 v ps.length (flatP ps)

theorem OwnP.nil (w : World) (base : Nat) : OwnP w base (.slice none 0 0) [] := World.ownsRow_nil w base _ 2
theorem OwnP.form {w : World} {base : Nat} {v : Value} {ps : List (Nat × Nat)} (h : OwnP w base v ps) (h0 : 0 < ps.length) : ∃ g cap, v = .slice (some ⟨g, 0, none⟩) ps.length cap ∧ base ≤ g ∧ g < w.heap.size ∧ PtsAt w g 0 ps := by
  obtain ⟨g, cap, rfl, h1, h2⟩ := World.ownsRow.form h h0
  exact ⟨g, cap, rfl, h1, h2, ptsAt_of_cells (World.ownsRow.cells h rfl)⟩

theorem below_own {w w' : World} {base K : Nat} {v : Value} {ps : List (Nat × Nat)} (h : OwnP w base v ps) (hg : w.grownBy w' v.ownBlock) (hK : K ≤ base) (hb : base ≤ w.heap.size) : Below K w w' :=
  ⟨hg.os, hg.tape, hg.output, hg.size, fun k hk => hg.block k (by omega) (by
    rcases h.2 with ⟨rfl, _⟩ | ⟨g, cap, cur, rfl, hbg, _⟩
    · simp [Value.ownBlock]
    · simp [Value.ownBlock]; omega)⟩

theorem wpList_append_xy {ops : Array Oper} {rest : List Oper} {o : Oper} {a : Act} {w : World} {Q : Exit → Act → World → Prop} (hgd : o.guard = none) (s x : Operand) (t : TypeId)
    (ho : o.op = .call { callee := .builtin .append, args := #[s, x], argTypes := #[t, t] }) (ht : Try.prog.underlying t = some (.slice 24)) (base : Nat) (v : Value) (ps : List (Nat × Nat)) (hs : a.eval s = v) (hown : OwnP w base v ps)
    (B off c : Nat) (px py : Nat) (hx : a.eval x = .slice (some ⟨B, off, none⟩) 1 c) (hc1 : w.cell? ⟨B, off, none⟩ = some (.float .f64 px)) (hc2 : w.cell? ⟨B, off + 1, none⟩ = some (.float .f64 py)) (hlen : ps.length ≤ 1000000) (hbase : base ≤ w.heap.size)
    (h : ∀ v' w', OwnP w' base v' (ps ++ [(px, py)]) → Below base w w' → wpList Try.prog ops Q rest (a.put o.dst v') w') : wpList Try.prog ops Q (o :: rest) a w := by
  obtain ⟨i, hi, hi'⟩ := Option.map_eq_some_iff.1 xy_info
  obtain ⟨hz, hi''⟩ := Prod.mk.inj hi'
  obtain ⟨hsz, hby⟩ := Prod.mk.inj hi''
  refine wpList_append_lies w hgd s x t ho base 24 i _ 2 16 ht hi hz hsz hby rfl (by decide) v ps.length (flatP ps) hs hown ⟨B, off, none⟩ 1 c (flatP [(px, py)]) hx rfl ?_ (flatP_one _) (by decide) (by have : maxLen = 9223372036854775807 := rfl; omega) (by omega) hbase _ rfl ?_
  · intro j u hu
    match j, hu with
    | 0, hu =>
      simp only [flatP, List.getElem?_cons_zero, Option.some.injEq] at hu
      subst hu
      simpa [Addr.add] using hc1
    | 1, hu =>
      simp only [flatP, List.getElem?_cons_zero, List.getElem?_cons_succ, Option.some.injEq] at hu
      subst hu
      simpa [Addr.add] using hc2
    | j + 2, hu => simp [flatP] at hu
  · intro g cap w' hown' hgr _ _
    refine h _ w' ?_ (below_own hown hgr (Nat.le_refl _) hbase)
    unfold OwnP
    rw [flatP_append, List.length_append]
    exact hown'
end Go.Proofs.Ytpphfoggjejpiaa
