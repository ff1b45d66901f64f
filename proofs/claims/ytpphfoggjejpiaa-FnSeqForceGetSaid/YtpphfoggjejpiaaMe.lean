/-
  Numbers appended to a row of the call's own; the reference's geometry of plain data, of a line string. Conditions: as each theorem states them.
-/
import Derived.Test.YtpphfoggjejpiaaMd
import Derived.Test.YtpphfoggjejpiaaRt
namespace Go.Proofs.Ytpphfoggjejpiaa
open Go.RowKit Fl Go.Sort

/-- A slice of the call's own that holds numbers. -/
def OwnF (w : World) (base : Nat) (v : Value) (fs : List Nat) : Prop := w.ownsRow base 22 1 v fs.length (flC fs)

theorem OwnF.nil (w : World) (base : Nat) : OwnF w base (.slice none 0 0) [] := World.ownsRow_nil w base _ 1

theorem flC_append (a b : List Nat) : flC (a ++ b) = flC a ++ flC b := by simp [flC]
theorem flC_length (a : List Nat) : (flC a).length = a.length := by simp [flC]
theorem flC_one (a : List Nat) : ∀ u ∈ flC a, u.oneCell' = true := by
  intro v hv
  unfold flC at hv
  obtain ⟨x, _, rfl⟩ := List.mem_map.1 hv
  rfl

theorem fsAt_of_cells {w : World} {g : Nat} {fs : List Nat} (h : ∀ j u, (flC fs)[j]? = some u → w.cell? ((⟨g, 0, none⟩ : Addr).add j) = some u) : FsAt w g 0 fs := by
  intro i hi
  have := h i (.float .f64 (fs[i]?.getD 0)) (by unfold flC; simp [hi])
  rw [addr_add] at this
  rw [Nat.zero_add]
  exact this

theorem OwnF.sl {w : World} {base : Nat} {v : Value} {fs : List Nat} (h : OwnF w base v fs) : ∃ ao cap, v = .slice ao fs.length cap ∧ FsSl w ao fs ∧ (ao = none → cap = 0) ∧ ∀ b, ao = some b → base ≤ b.block := by
  rcases Nat.eq_zero_or_pos fs.length with h0 | h0
  · rcases h.2 with ⟨rfl, _⟩ | ⟨g, cap, cur, rfl, hbg, _⟩
    · exact ⟨none, 0, by rw [h0], (fun h => absurd h (by omega)), fun _ => rfl, fun b h => by cases h⟩
    · exact ⟨_, cap, rfl, (fun h => absurd h (by omega)), (fun h => by cases h), fun b h => by cases h; exact hbg⟩
  · obtain ⟨g, cap, rfl, hbg, hlt⟩ := World.ownsRow.form h h0
    exact ⟨_, cap, rfl, (fun _ => ⟨g, 0, rfl, hlt, fsAt_of_cells (World.ownsRow.cells h rfl)⟩), (fun h => by cases h), fun b h => by cases h; exact hbg⟩

theorem below_ownF {w w' : World} {base : Nat} {v : Value} {fs : List Nat} (h : OwnF w base v fs) (hg : w.grownBy w' v.ownBlock) (hb : base ≤ w.heap.size) : Below base w w' :=
  ⟨hg.os, hg.tape, hg.output, hg.size, fun k hk => hg.block k (by omega) (by
    rcases h.2 with ⟨rfl, _⟩ | ⟨g, cap, cur, rfl, hbg, _⟩
    · simp [Value.ownBlock]
    · simp [Value.ownBlock]; omega)⟩

theorem wp_append_fs {o : Oper} {a : Act} {w : World} {K : Act → World → Prop} {Q : Exit → Act → World → Prop} (s x : Operand) (t : TypeId)
    (ho : o.op = .call { callee := .builtin .append, args := #[s, x], argTypes := #[t, t] }) (ht : Try.prog.underlying t = some (.slice 22)) (base : Nat) (v : Value) (fs : List Nat) (hs : a.eval s = v) (hown : OwnF w base v fs)
    (ao : Option Addr) (c : Nat) (news : List Nat) (hx : a.eval x = .slice ao news.length c) (hnil : ao = none → c = 0) (hn : FsSl w ao news) (hlen : fs.length + news.length ≤ 1000000) (hbase : base ≤ w.heap.size)
    (h : ∀ v' w', OwnF w' base v' (fs ++ news) → Below base w w' → K (a.put o.dst v') w') : o.wp Try.prog a w K Q := by
  obtain ⟨i, hi, hi'⟩ := Option.map_eq_some_iff.1 f64_info
  obtain ⟨hz, hi''⟩ := Prod.mk.inj hi'
  obtain ⟨hsz, hby⟩ := Prod.mk.inj hi''
  cases ao with
  | none =>
    have h0 : news.length = 0 := by
      rcases Nat.eq_zero_or_pos news.length with h | h
      · exact h
      · obtain ⟨b, off, he, _⟩ := hn h; cases he
    obtain rfl : news = [] := List.eq_nil_of_length_eq_zero h0
    rw [hnil rfl] at hx
    have hrun := run_append_owned_none (P := Try.prog) (w := w) base t o.type 22 i 1 ht hi v fs.length (flC fs) hown
    unfold Oper.wp
    simp only [List.length_nil] at hx
    simp [execOp, ho, resolve, invoke, builtin, hs, hx, hrun, Result.andThen]
    exact h v w (by rw [List.append_nil]; exact hown) (Below.refl _ _)
  | some ad =>
    obtain ⟨v', w', hrun, r1, r2, _⟩ := run_append_own (P := Try.prog) w base t o.type 22 i _ 1 8 ht hi hz hsz hby rfl (by decide) v fs.length (flC fs) hown ad news.length c (flC news) (by rw [flC_length, Nat.mul_one]) (fun j u hu => by
        have hj : j < news.length := by have := (List.getElem?_eq_some_iff.1 hu).1; rw [flC_length] at this; exact this
        obtain ⟨b, off, he, _, hf⟩ := hn (by omega)
        cases he
        exact FsSl.cells hf j u hu) (flC_one _) (by have : maxLen = 9223372036854775807 := rfl; omega) (by omega) hbase
    unfold Oper.wp
    simp [execOp, ho, resolve, invoke, builtin, hs, hx, hrun, Result.andThen]
    refine h v' w' ?_ (below_ownF hown r2 hbase)
    unfold OwnF
    rw [flC_append, List.length_append]
    exact r1

theorem step_append_fs {o : Oper} {a : Act} {w : World} {K : Act → World → Prop} {Q : Exit → Act → World → Prop} {E : Prop} {c0 : Bool} (hc0 : c0 = true) (s x : Operand) (t : TypeId)
    (ho : o.op = .call { callee := .builtin .append, args := #[s, x], argTypes := #[t, t] }) (ht : Try.prog.underlying t = some (.slice 22)) (base : Nat) (v : Value) (fs : List Nat) (hs : a.eval s = v) (hown : OwnF w base v fs)
    (ao : Option Addr) (c : Nat) (news : List Nat) (hx : a.eval x = .slice ao news.length c) (hnil : ao = none → c = 0) (hn : FsSl w ao news) (hlen : fs.length + news.length ≤ 1000000) (hbase : base ≤ w.heap.size)
    (h : ∀ v' w', OwnF w' base v' (fs ++ news) → Below base w w' → K (a.put o.dst v') w') : if c0 = true then o.wp Try.prog a w K Q else E := by
  rw [if_pos hc0]
  exact wp_append_fs s x t ho ht base v fs hs hown ao c news hx hnil hn hlen hbase h

theorem wpList_append_fs {ops : Array Oper} {rest : List Oper} {o : Oper} {a : Act} {w : World} {Q : Exit → Act → World → Prop} (hgd : o.guard = none) (s x : Operand) (t : TypeId)
    (ho : o.op = .call { callee := .builtin .append, args := #[s, x], argTypes := #[t, t] }) (ht : Try.prog.underlying t = some (.slice 22)) (base : Nat) (v : Value) (fs : List Nat) (hs : a.eval s = v) (hown : OwnF w base v fs)
    (ao : Option Addr) (c : Nat) (news : List Nat) (hx : a.eval x = .slice ao news.length c) (hnil : ao = none → c = 0) (hn : FsSl w ao news) (hlen : fs.length + news.length ≤ 1000000) (hbase : base ≤ w.heap.size)
    (h : ∀ v' w', OwnF w' base v' (fs ++ news) → Below base w w' → wpList Try.prog ops Q rest (a.put o.dst v') w') : wpList Try.prog ops Q (o :: rest) a w :=
  wpList_plain hgd fun _ hK => wp_append_fs s x t ho ht base v fs hs hown ao c news hx hnil hn hlen hbase fun v' w' h1 h2 => hK _ _ (h v' w' h1 h2)

theorem FsAt.setCell_ne {w : World} {b off P i : Nat} {v : Value} {fs : List Nat} (h : FsAt w b off fs) (hne : b ≠ P) : FsAt (w.setCell ⟨P, i, none⟩ v) b off fs := fun j hj => by
  rw [World.cell?_setCell_other _ _ _ _ (fun e => hne (congrArg Addr.block e).symm)]
  exact h j hj

theorem FsSl.setCell {w : World} {ao : Option Addr} {P i K : Nat} {v : Value} {fs : List Nat} (h : FsSl w ao fs) (hK : ∀ b, ao = some b → K ≤ b.block) (hP : P < K) : FsSl (w.setCell ⟨P, i, none⟩ v) ao fs := by
  intro h0
  obtain ⟨b, off, rfl, hlt, hf⟩ := h h0
  exact ⟨b, off, rfl, by simpa [World.setCell] using hlt, hf.setCell_ne (by have := hK _ rfl; dsimp only at this; omega)⟩
end Go.Proofs.Ytpphfoggjejpiaa
