/-
  Small laws of the walk that the kit lacks (a float stored into a cell), and the class of worlds 'some draws, some new blocks' for regions that draw their order. Conditions: none.
-/
import Derived.WalkKit
import Derived.WalkSpells
import Derived.WalkLawsBesides
import Derived.Lib.Hide
import Derived.Lib.QuietBelow
import Derived.Deep.WholeRow
import Derived.Deep.MidRow
namespace Go.Proofs.Ytpphfoggjejpiaa
open Go.RowKit Go.Sort

@[go_sem] theorem run_store_float {P : Program} {w : World} {a : Addr} {m : Mode} (k : FloatKind) (b : Nat) : (store a (.float k b) m).run P w = stored P w a (.float k b) m := run_store P w a _ m rfl

@[go_sem] theorem run_equalIn_float {P : Program} {w : World} (d : Nat) (t : TypeId) (k k' : FloatKind) (a b : Nat) (h : P.underlying t = some (.float k')) : (Op.equalIn (d + 1) t (.float k a) (.float k b)).run P w = .ok (k.format.order a b == some .eq) w := by
  simp [Op.equalIn, run_underlying h, Op.floatEq]

/-- The world after some draws and with some new blocks. -/
def gr (w : World) (p : Regrown) : World := grow (redrawn w p.d) p.os

theorem gr_below (w : World) (p : Regrown) : Below w.heap.size w (gr w p) := below_regrown w p.d p.os
theorem gr_of_below {w w' : World} (h : Below w.heap.size w w') : ∃ p, w' = gr w p := regrown_of_below h
theorem below_gr {w w' : World} (h : ∃ p, w' = gr w p) : Below w.heap.size w w' := by obtain ⟨p, rfl⟩ := h; exact gr_below _ _

@[go_sem] theorem gr_size (w : World) (p : Regrown) : (gr w p).heap.size = w.heap.size + p.os.size := by simp [gr, grow, redrawn]
@[go_sem] theorem gr_cell (w : World) (p : Regrown) (b o : Nat) (h : b < w.heap.size) : (gr w p).cell? ⟨b, o, none⟩ = w.cell? ⟨b, o, none⟩ := (gr_below w p).cell (p := ⟨b, o, none⟩) h
@[go_sem] theorem gr_frozen (w : World) (p : Regrown) (b o : Nat) (h : b < w.heap.size) : (gr w p).frozen? ⟨b, o, none⟩ = w.frozen? ⟨b, o, none⟩ := (gr_below w p).frozen (p := ⟨b, o, none⟩) h
@[go_sem] theorem lt_fam2 (a t2 : Nat) : (a < a + 1 + t2) = True := by simp; omega
@[go_sem] theorem lt_fam3 (a t2 t3 : Nat) : (a < a + 1 + t2 + t3) = True := by simp; omega
@[go_sem] theorem lt_fam4 (a t2 t3 t4 : Nat) : (a < a + 1 + t2 + t3 + t4) = True := by simp; omega
@[go_sem] theorem lt_fam5 (a t2 t3 t4 t5 : Nat) : (a < a + 1 + t2 + t3 + t4 + t5) = True := by simp; omega
@[go_sem] theorem lt_fam6 (a t2 t3 t4 t5 t6 : Nat) : (a < a + 1 + t2 + t3 + t4 + t5 + t6) = True := by simp; omega
@[go_sem] theorem lt_fam7 (a t2 t3 t4 t5 t6 t7 : Nat) : (a < a + 1 + t2 + t3 + t4 + t5 + t6 + t7) = True := by simp; omega
@[go_sem] theorem lt_fam8 (a t2 t3 t4 t5 t6 t7 t8 : Nat) : (a < a + 1 + t2 + t3 + t4 + t5 + t6 + t7 + t8) = True := by simp; omega
@[go_sem] theorem lt_fam9 (a t2 t3 t4 t5 t6 t7 t8 t9 : Nat) : (a < a + 1 + t2 + t3 + t4 + t5 + t6 + t7 + t8 + t9) = True := by simp; omega
@[go_sem] theorem lt_fam10 (a t2 t3 t4 t5 t6 t7 t8 t9 t10 : Nat) : (a < a + 1 + t2 + t3 + t4 + t5 + t6 + t7 + t8 + t9 + t10) = True := by simp; omega
@[go_sem] theorem lt_fam11 (a t2 t3 t4 t5 t6 t7 t8 t9 t10 t11 : Nat) : (a < a + 1 + t2 + t3 + t4 + t5 + t6 + t7 + t8 + t9 + t10 + t11) = True := by simp; omega
@[go_sem] theorem lt_fam12 (a t2 t3 t4 t5 t6 t7 t8 t9 t10 t11 t12 : Nat) : (a < a + 1 + t2 + t3 + t4 + t5 + t6 + t7 + t8 + t9 + t10 + t11 + t12) = True := by simp; omega
@[go_sem] theorem lt_fam13 (a t2 t3 t4 t5 t6 t7 t8 t9 t10 t11 t12 t13 : Nat) : (a < a + 1 + t2 + t3 + t4 + t5 + t6 + t7 + t8 + t9 + t10 + t11 + t12 + t13) = True := by simp; omega
@[go_sem] theorem lt_fam14 (a t2 t3 t4 t5 t6 t7 t8 t9 t10 t11 t12 t13 t14 : Nat) : (a < a + 1 + t2 + t3 + t4 + t5 + t6 + t7 + t8 + t9 + t10 + t11 + t12 + t13 + t14) = True := by simp; omega
@[go_sem] theorem lt_fam15 (a t2 t3 t4 t5 t6 t7 t8 t9 t10 t11 t12 t13 t14 t15 : Nat) : (a < a + 1 + t2 + t3 + t4 + t5 + t6 + t7 + t8 + t9 + t10 + t11 + t12 + t13 + t14 + t15) = True := by simp; omega
@[go_sem] theorem lt_fam16 (a t2 t3 t4 t5 t6 t7 t8 t9 t10 t11 t12 t13 t14 t15 t16 : Nat) : (a < a + 1 + t2 + t3 + t4 + t5 + t6 + t7 + t8 + t9 + t10 + t11 + t12 + t13 + t14 + t15 + t16) = True := by simp; omega
@[go_sem] theorem lt_par1 (b a t1 : Nat) (h : b < a) : (b < a + t1) = True := by simp; omega
@[go_sem] theorem lt_par2 (b a t1 t2 : Nat) (h : b < a) : (b < a + t1 + t2) = True := by simp; omega
@[go_sem] theorem lt_par3 (b a t1 t2 t3 : Nat) (h : b < a) : (b < a + t1 + t2 + t3) = True := by simp; omega
@[go_sem] theorem lt_par4 (b a t1 t2 t3 t4 : Nat) (h : b < a) : (b < a + t1 + t2 + t3 + t4) = True := by simp; omega
@[go_sem] theorem lt_par5 (b a t1 t2 t3 t4 t5 : Nat) (h : b < a) : (b < a + t1 + t2 + t3 + t4 + t5) = True := by simp; omega
@[go_sem] theorem lt_par6 (b a t1 t2 t3 t4 t5 t6 : Nat) (h : b < a) : (b < a + t1 + t2 + t3 + t4 + t5 + t6) = True := by simp; omega
@[go_sem] theorem lt_par7 (b a t1 t2 t3 t4 t5 t6 t7 : Nat) (h : b < a) : (b < a + t1 + t2 + t3 + t4 + t5 + t6 + t7) = True := by simp; omega
@[go_sem] theorem lt_par8 (b a t1 t2 t3 t4 t5 t6 t7 t8 : Nat) (h : b < a) : (b < a + t1 + t2 + t3 + t4 + t5 + t6 + t7 + t8) = True := by simp; omega
@[go_sem] theorem lt_par9 (b a t1 t2 t3 t4 t5 t6 t7 t8 t9 : Nat) (h : b < a) : (b < a + t1 + t2 + t3 + t4 + t5 + t6 + t7 + t8 + t9) = True := by simp; omega
@[go_sem] theorem lt_par10 (b a t1 t2 t3 t4 t5 t6 t7 t8 t9 t10 : Nat) (h : b < a) : (b < a + t1 + t2 + t3 + t4 + t5 + t6 + t7 + t8 + t9 + t10) = True := by simp; omega
@[go_sem] theorem lt_par11 (b a t1 t2 t3 t4 t5 t6 t7 t8 t9 t10 t11 : Nat) (h : b < a) : (b < a + t1 + t2 + t3 + t4 + t5 + t6 + t7 + t8 + t9 + t10 + t11) = True := by simp; omega
@[go_sem] theorem lt_par12 (b a t1 t2 t3 t4 t5 t6 t7 t8 t9 t10 t11 t12 : Nat) (h : b < a) : (b < a + t1 + t2 + t3 + t4 + t5 + t6 + t7 + t8 + t9 + t10 + t11 + t12) = True := by simp; omega
@[go_sem] theorem lt_par13 (b a t1 t2 t3 t4 t5 t6 t7 t8 t9 t10 t11 t12 t13 : Nat) (h : b < a) : (b < a + t1 + t2 + t3 + t4 + t5 + t6 + t7 + t8 + t9 + t10 + t11 + t12 + t13) = True := by simp; omega
@[go_sem] theorem lt_par14 (b a t1 t2 t3 t4 t5 t6 t7 t8 t9 t10 t11 t12 t13 t14 : Nat) (h : b < a) : (b < a + t1 + t2 + t3 + t4 + t5 + t6 + t7 + t8 + t9 + t10 + t11 + t12 + t13 + t14) = True := by simp; omega
@[go_sem] theorem lt_par15 (b a t1 t2 t3 t4 t5 t6 t7 t8 t9 t10 t11 t12 t13 t14 t15 : Nat) (h : b < a) : (b < a + t1 + t2 + t3 + t4 + t5 + t6 + t7 + t8 + t9 + t10 + t11 + t12 + t13 + t14 + t15) = True := by simp; omega
@[go_sem] theorem lt_par16 (b a t1 t2 t3 t4 t5 t6 t7 t8 t9 t10 t11 t12 t13 t14 t15 t16 : Nat) (h : b < a) : (b < a + t1 + t2 + t3 + t4 + t5 + t6 + t7 + t8 + t9 + t10 + t11 + t12 + t13 + t14 + t15 + t16) = True := by simp; omega

/-- Two such worlds in a row. -/
def rthen (p q : Regrown) : Regrown := ⟨q.d, p.os ++ q.os⟩
@[go_sem] theorem gr_gr (w : World) (p q : Regrown) : gr (gr w p) q = gr w (rthen p q) := by
  simp [gr, grow, redrawn, rthen, Array.append_assoc]

/-- A store into an old block goes through. -/
@[go_sem] theorem gr_setCell (w : World) (p : Regrown) (b o : Nat) (v : Value) (h : b < w.heap.size) : (gr w p).setCell ⟨b, o, none⟩ v = gr (w.setCell ⟨b, o, none⟩ v) p := by
  unfold gr grow redrawn World.setCell
  dsimp only
  rw [modify_append_left _ _ _ _ h]

theorem below_gr' {B : Nat} {w W : World} {p : Regrown} (h : Below B w W) (hB : B ≤ W.heap.size) : Below B w (gr W p) := h.trans ((gr_below W p).mono hB)

/-- A callee's contract met in a world of the class. -/
theorem Calls.gr_of {P : Program} {f : FuncId} {args : Array Value} {w : World} {p : Regrown} {v : Value}
    (h : Calls P f args (gr w p) fun e w' => e = .returned v ∧ Below (gr w p).heap.size (gr w p) w') : Calls P f args (gr w p) fun e w'' => e = .returned v ∧ ∃ p, w'' = gr w p :=
  Calls.regrown_of h

theorem Calls.gr_of_same {P : Program} {f : FuncId} {args : Array Value} {w : World} {p : Regrown} {v : Value}
    (h : Calls P f args (gr w p) fun e w' => e = .returned v ∧ gr w p = w') : Calls P f args (gr w p) fun e w'' => e = .returned v ∧ ∃ p, w'' = gr w p :=
  h.mono fun _ _ ⟨he, hw⟩ => ⟨he, p, hw.symm⟩

theorem wp_region_gr {P : Program} {id : Nat} {Q : Exit → Act → World → Prop} {a : Act} {w : World} {l : List Oper} (hm : P.follows .mixedOrders = true) (hB : Region.lexB .any l.toArray = true)
    (h : wpQuiet P l.toArray (fun w' => ∃ p, w' = gr w p) (fun a' => ∀ w', (∃ p, w' = gr w p) → Q .normal a' w') l a) : (Code.region id l.toArray true).wp P Q a w :=
  wp_region_quiet_below hm hB h

/-- A whole struct into the block that was made last. -/
theorem wpList_store_new {P : Program} {ops : Array Oper} {rest : List Oper} {op : Oper} {a : Act} {w : World} {Q : Exit → Act → World → Prop} (hgd : op.guard = none) (ty : TypeId) (x y : Operand) (ho : op.op = .store ty x y)
    (c c' : Array Value) (hx : a.eval x = .pointer (some ⟨w.heap.size, 0, none⟩)) (hy : a.eval y = .agg c') (hi : (P.info? ty).map (·.size) = some c'.size) (hsz : c.size = c'.size) (h1 : c'.all (·.oneCell') = true)
    (h : wpList P ops Q rest (a.put op.dst undef) (w.alloc (.cells c' ty))) : wpList P ops Q (op :: rest) a (w.alloc (.cells c ty)) :=
  wpList_plain hgd fun K hK => by
    have hr := run_storeAt_new (P := P) w ty c c' hi hsz h1
    have := hK _ _ h
    unfold Oper.wp execOp
    simp only [ho, hx, hy, hr, Sem.run_bind, Result.andThen_ok]
    exact this

/-- An operation whose run is known as it stands. -/
theorem wpList_run {P : Program} {ops : Array Oper} {rest : List Oper} {op : Oper} {a : Act} {w : World} {Q : Exit → Act → World → Prop} (hgd : op.guard = none) (v : Value) (w' : World)
    (hr : (execOp a.eval op).run P w = .ok (.value v) w') (h : wpList P ops Q rest (a.put op.dst v) w') : wpList P ops Q (op :: rest) a w :=
  wpList_plain hgd fun K hK => by
    have := hK _ _ h
    unfold Oper.wp
    rw [hr]
    exact this

/-- A function whose one result lies in a cell: its value, read whole. -/
theorem results_cell {P : Program} {fn : Func} {p : Tmp} {ty : TypeId} (h : fn.results = #[.cell p ty]) (tmps : Array Value) (w : World) (b o : Nat) (hp : tmps.getD p undef = .pointer (some ⟨b, o, none⟩))
    (cs : List Value) (d : TypeDesc) (hc : w.rangeAt b o cs) (hu : P.underlying ty = some d) (hd : d.isRow = true) (hi : (P.info? ty).map (·.size) = some cs.length) :
    (results fn tmps).run P w = .ok (.agg cs.toArray) w := by
  have hl := run_loadVar_mid w b o ty cs d hc hu hd hi
  rw [Array.getD_eq_getD_getElem?] at hp
  simp only [results, h]
  simp [Sem.run_bind, Result.andThen, hp, asAddr, hl]

theorem range_new (w : World) (c : Array Value) (t : TypeId) : (w.alloc (.cells c t)).rangeAt w.heap.size 0 c.toList := by
  have := World.rangeAt_of_block (heap_alloc_last w (.cells c t)) 0 c.size
  simpa using this

/-- The same where the world is of such a class already. -/
theorem wp_region_gr' {P : Program} {id : Nat} {Q : Exit → Act → World → Prop} {a : Act} {w : World} {p : Regrown} {l : List Oper} (hm : P.follows .mixedOrders = true) (hB : Region.lexB .any l.toArray = true)
    (h : wpQuiet P l.toArray (fun w' => ∃ p, w' = gr w p) (fun a' => ∀ w', (∃ p, w' = gr w p) → Q .normal a' w') l a) : (Code.region id l.toArray true).wp P Q a (gr w p) :=
  wp_region_quiet (C := fun w' => ∃ p, w' = gr w p) hm hB ⟨⟨p.d + 1, p.os⟩, rfl⟩ (by simpa using h)
end Go.Proofs.Ytpphfoggjejpiaa
