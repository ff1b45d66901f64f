/-
  A block of cells that is known whole: read, written by whole structs or cell by cell, kept behind draws, new blocks and stores elsewhere. Conditions: as the theorems state them.
-/
import Derived.Test.YtpphfoggjejpiaaTl
namespace Go.Proofs.Ytpphfoggjejpiaa
open Go.RowKit Go.Sort

/-- Block B holds just these cells, and none is frozen. -/
def Blk (w : World) (B : Nat) (c : Array Value) : Prop := ∃ t, w.heap[B]? = some (.cells c t (0, 0))

namespace Blk
variable {w w' : World} {B : Nat} {c : Array Value}

theorem cell (h : Blk w B c) (i : Nat) : w.cell? ⟨B, i, none⟩ = c[i]? := by
  obtain ⟨t, h⟩ := h
  unfold World.cell?
  dsimp only
  rw [h]; rfl
theorem frozen (h : Blk w B c) (i : Nat) : w.frozen? ⟨B, i, none⟩ = false := by
  obtain ⟨t, h⟩ := h
  unfold World.frozen?
  dsimp only
  rw [h]
  simp
theorem lt (h : Blk w B c) : B < w.heap.size := by
  obtain ⟨t, h⟩ := h
  exact (Array.getElem?_eq_some_iff.1 h).1
theorem of_same (h : Blk w B c) (hs : w'.heap[B]? = w.heap[B]?) : Blk w' B c := by
  obtain ⟨t, h⟩ := h
  exact ⟨t, by rw [hs]; exact h⟩
theorem below {K : Nat} (h : Blk w B c) (hb : Below K w w') (hK : B < K) : Blk w' B c := h.of_same (hb.block B hK)
theorem gr (h : Blk w B c) (p : Regrown) : Blk (gr w p) B c := h.below (gr_below w p) h.lt
theorem alloc (h : Blk w B c) (o : Obj) : Blk (w.alloc o) B c := h.of_same (Below.heap_alloc w o B h.lt)
theorem new (w : World) (c : Array Value) (t : TypeId) : Blk (w.alloc (.cells c t)) w.heap.size c := ⟨t, heap_alloc_last w _⟩
theorem new' (w : World) (c : Array Value) (t : TypeId) (n : Nat) (hn : n = w.heap.size) : Blk (w.alloc (.cells c t)) n c := by subst hn; exact Blk.new w c t
theorem setCell_ne (h : Blk w B c) {a : Addr} (hne : B ≠ a.block) (v : Value) : Blk (w.setCell a v) B c := h.of_same (Below.heap_setCell w a v B hne)
theorem setCell (h : Blk w B c) (i : Nat) (v : Value) : Blk (w.setCell ⟨B, i, none⟩ v) B (c.setIfInBounds i v) := by
  obtain ⟨t, h⟩ := h
  refine ⟨t, ?_⟩
  simp only [World.setCell, Array.getElem?_modify]
  rw [if_pos trivial, h]
  rfl
theorem setCell_eq {c' : Array Value} (h : Blk w B c) {i : Nat} {v : Value} (hc : c' = c.setIfInBounds i v) : Blk (w.setCell ⟨B, i, none⟩ v) B c' := by subst hc; exact h.setCell i v
theorem drew (h : Blk w B c) : Blk w.drew B c := h
end Blk

/-- Only block B has turned. -/
structure OnlyB (B : Nat) (w w' : World) : Prop where
  os : w'.os = w.os
  tape : w'.tape = w.tape
  output : w'.output = w.output
  size : w'.heap.size = w.heap.size
  block : ∀ k, k ≠ B → w'.heap[k]? = w.heap[k]?

theorem OnlyB.below {B K : Nat} {w w' : World} (h : OnlyB B w w') (hK : K ≤ B) : Below K w w' :=
  ⟨h.os, h.tape, h.output, by rw [h.size]; exact Nat.le_refl _, fun k hk => h.block k (by omega)⟩
theorem OnlyB.refl (B : Nat) (w : World) : OnlyB B w w := ⟨rfl, rfl, rfl, rfl, fun _ _ => rfl⟩
theorem OnlyB.trans {B : Nat} {w w1 w2 : World} (h : OnlyB B w w1) (k : OnlyB B w1 w2) : OnlyB B w w2 :=
  ⟨k.os.trans h.os, k.tape.trans h.tape, k.output.trans h.output, k.size.trans h.size, fun i hi => (k.block i hi).trans (h.block i hi)⟩
theorem OnlyB.setCell (w : World) (B i : Nat) (v : Value) : OnlyB B w (w.setCell ⟨B, i, none⟩ v) :=
  ⟨rfl, rfl, rfl, by simp [World.setCell], fun k hk => Below.heap_setCell w _ v k hk⟩
theorem OnlyB.blk {B B' : Nat} {w w' : World} {c : Array Value} (h : OnlyB B w w') (hb : Blk w B' c) (hne : B' ≠ B) : Blk w' B' c := hb.of_same (h.block B' hne)
theorem OnlyB.cell {B b o : Nat} {w w' : World} (h : OnlyB B w w') (hne : b ≠ B) : w'.cell? ⟨b, o, none⟩ = w.cell? ⟨b, o, none⟩ := World.cell?_of_block (w := w) (h.block b hne)

theorem blk_setCells {B : Nat} : ∀ (vs : List Value) (o : Nat) (w : World) (c : Array Value), Blk w B c → o + vs.length = c.size → OnlyB B w (w.setCells B o vs) ∧ ∃ c', Blk (w.setCells B o vs) B c' ∧ c'.size = c.size ∧ (∀ i, i < o → c'[i]? = c[i]?) ∧ ∀ i, i < vs.length → c'[o + i]? = vs[i]?
  | [], o, w, c, h, hl => ⟨OnlyB.refl _ _, c, h, rfl, fun _ _ => rfl, fun i hi => by simp at hi⟩
  | v :: vs, o, w, c, h, hl => by
    obtain ⟨h1, c', h2, h3, h4, h5⟩ := blk_setCells vs (o + 1) (w.setCell ⟨B, o, none⟩ v) (c.setIfInBounds o v) (h.setCell o v) (by simp at hl ⊢; omega)
    refine ⟨(OnlyB.setCell w B o v).trans h1, c', h2, by rw [h3]; simp, fun i hi => ?_, fun i hi => ?_⟩
    · rw [h4 i (by omega), Array.getElem?_setIfInBounds_ne (by omega)]
    · cases i with
      | zero =>
        rw [Nat.add_zero, h4 o (by omega)]
        have : o < c.size := by simp at hl; omega
        simp [this]
      | succ i =>
        have := h5 i (by simp at hi; omega)
        rw [show o + (i + 1) = o + 1 + i by omega, this]; rfl

/-- A whole struct into its block. -/
theorem wpList_store_blk {P : Program} {ops : Array Oper} {rest : List Oper} {op : Oper} {a : Act} {w : World} {Q : Exit → Act → World → Prop} (hgd : op.guard = none) (ty : TypeId) (x y : Operand) (ho : op.op = .store ty x y)
    (B : Nat) (c c' : Array Value) (hB : Blk w B c) (hx : a.eval x = .pointer (some ⟨B, 0, none⟩)) (hy : a.eval y = .agg c') (hi : (P.info? ty).map (·.size) = some c'.size) (hsz : c.size = c'.size) (h1 : ∀ v ∈ c'.toList, v.oneCell' = true)
    (h : ∀ w', Blk w' B c' → OnlyB B w w' → wpList P ops Q rest (a.put op.dst undef) w') : wpList P ops Q (op :: rest) a w := by
  obtain ⟨g1, d, g2, g3, g4, g5⟩ := blk_setCells c'.toList 0 w c hB (by simp [hsz])
  have hd : d = c' := by
    apply Array.ext_getElem?
    intro i
    by_cases hi : i < c'.size
    · have := g5 i (by simpa using hi)
      simpa using this
    · rw [Array.getElem?_eq_none (by omega), Array.getElem?_eq_none (by omega)]
  subst hd
  have hthere : w.there B 0 d.size := by
    intro j hj
    refine ⟨?_, hB.frozen _⟩
    rw [hB.cell]
    have : j < c.size := by omega
    simp [this]
  refine wpList_store_mid hgd ty x y ho B 0 d hx hy hthere hi ?_ (h _ g2 g1)
  have := all_oneCell_toArray h1
  simpa using this
end Go.Proofs.Ytpphfoggjejpiaa
