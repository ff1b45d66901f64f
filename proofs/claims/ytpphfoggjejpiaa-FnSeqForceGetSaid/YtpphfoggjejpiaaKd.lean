/-
  The walks over sequences, continued: their making, two places that differ. Conditions: as each theorem states them.
-/
import Derived.Test.YtpphfoggjejpiaaKc
import Derived.Laws.OwnMore
namespace Go.Proofs.Ytpphfoggjejpiaa
open Go.RowKit Fl Go.Sort

theorem f64_info : (Try.prog.info? 22).map (fun i => (i.zero, i.size, i.bytes)) = some (some (.float .f64 0), 1, 8) := by kernel_rfl

theorem make_f64 (n : Nat) (hn : (n : Int) ≤ 1000000) (w : World) : (Instr.makeSlice 67 (.int .i64 n) (.int .i64 n)).run Try.prog w = .ok (.slice (some ⟨w.heap.size, 0, none⟩) n n) (w.alloc (.cells (List.replicate n (.float .f64 0)).toArray 22)) := by
  obtain ⟨i, hi, hi'⟩ := Option.map_eq_some_iff.1 f64_info
  obtain ⟨hz, hi''⟩ := Prod.mk.inj hi'
  obtain ⟨hsz, hby⟩ := Prod.mk.inj hi''
  have := run_make (P := Try.prog) w 67 22 i _ (by kernel_rfl) hi hz .i64 .i64 n n (by omega) (Int.le_refl _) (by rw [hby]; omega) (by omega)
  rw [hsz, Int.toNat_natCast, Nat.mul_one] at this
  have e : madeCells #[Value.float .f64 0] n = (List.replicate n (Value.float .f64 0)).toArray := by rw [← toList_madeCells_one]
  rw [← e]
  exact this

theorem newSeq_any {d : Int} (hd : D4 d) (ao : Option Addr) (n cap : Nat) (hr : Int.tmod (n : Int) (dimN d : Int) = 0) (hn : (n : Int) ≤ 1000000) (w : World) :
    Calls Try.prog 152 #[.slice ao n cap, .int .u8 d] w fun e w' => e = .returned (.agg #[.int .u8 d, .slice ao n cap]) ∧ Below w.heap.size w w' := by
  have h1 := Lib.hid (fun w => dim_any hd w)
  have hm := dimN_cases d
  generalize dimN d = m at *
  clear hd
  rcases hm with rfl | rfl | rfl
  all_goals
    simp only [Int.cast_ofNat_Int] at *
    go_enter Try.func152, Try.ntmps152
    go_wp2_with (go_at_call 133; refine (h1.out _).mono ?_; rintro e w' ⟨rfl, hq⟩; obtain ⟨q, rfl⟩ := gr_of_below hq; clear hq)
    exact bodyPost_ret (v := .agg #[.int .u8 d, .slice ao n cap]) (by simp [results, Try.results152, go_sem]) rfl ⟨rfl, (by repeat (first | exact Below.refl _ _ | (refine below_gr' ?_ (by first | omega | (simp [go_sem] <;> omega))) | (refine Below.alloc ?_ (by first | omega | (simp [go_sem] <;> omega)) _) | refine Below.drew ?_ | (refine Below.setCell ?_ (by first | omega | (simp [go_sem] <;> omega)) _)))⟩

/-- The numbers behind a slice, nil or not. -/
def FsSl (w : World) (ao : Option Addr) (fs : List Nat) : Prop := 0 < fs.length → ∃ b off, ao = some ⟨b, off, none⟩ ∧ b < w.heap.size ∧ FsAt w b off fs

theorem FsSl.below {w w' : World} {ao : Option Addr} {fs : List Nat} (h : FsSl w ao fs) (hb : Below w.heap.size w w') : FsSl w' ao fs := by
  intro h0
  obtain ⟨b, off, rfl, hlt, hf⟩ := h h0
  exact ⟨b, off, rfl, Nat.lt_of_lt_of_le hlt hb.size, hf.below hb hlt⟩

def flC (fs : List Nat) : List Value := fs.map (.float .f64)

theorem FsSl.cells {w : World} {b off : Nat} {fs : List Nat} (h : FsAt w b off fs) : ∀ j v, (flC fs)[j]? = some v → w.cell? ((⟨b, off, none⟩ : Addr).add j) = some v := by
  intro j v hv
  unfold flC at hv
  rw [List.getElem?_map] at hv
  obtain ⟨x, hx, rfl⟩ := Option.map_eq_some_iff.1 hv
  have hj : j < fs.length := (List.getElem?_eq_some_iff.1 hx).1
  have := h j hj
  rw [hx] at this
  unfold Addr.add
  split <;> simp_all

theorem fsAt_of_blk {w : World} {B : Nat} {fs : List Nat} {t : TypeId} (h : w.heap[B]? = some (.cells (flC fs).toArray t (0, 0))) : FsAt w B 0 fs := by
  intro i hi
  have hb : Blk w B (flC fs).toArray := ⟨t, h⟩
  rw [Nat.zero_add, hb.cell]
  unfold flC
  simp [hi]

theorem splice_all (n : Nat) (z : Value) (fs : List Nat) (h : fs.length = n) : splice (List.replicate n z) 0 (flC fs) = flC fs := by
  unfold splice
  have : (flC fs).length = n := by simp [flC, h]
  simp [this]

theorem alloc_at {w : World} {o : Obj} {g : Nat} (h : g = w.heap.size) : (w.alloc o).heap[g]? = some o := by subst h; exact heap_alloc_last w o

theorem seq_one (d : Int) (ao : Option Addr) (n c : Nat) : ∀ v ∈ (#[.int .u8 d, .slice ao n c] : Array Value).toList, v.oneCell' = true := by
  intro v hv
  simp only [List.mem_cons, List.not_mem_nil, or_false] at hv
  rcases hv with rfl | rfl <;> rfl

theorem seq_info : (Try.prog.info? 138).map (·.size) = some 2 := by kernel_rfl

theorem wpList_copy_fs {ops : Array Oper} {rest : List Oper} {o : Oper} {a : Act} {w : World} {Q : Exit → Act → World → Prop} (hgd : o.guard = none) (d s : Operand) (dT sT : TypeId)
    (ho : o.op = .call { callee := .builtin .copy, args := #[d, s], argTypes := #[dT, sT] }) (hu : Try.prog.underlying dT = some (.slice 22)) (g n dc sc : Nat) (ao : Option Addr) (hd : a.eval d = .slice (some ⟨g, 0, none⟩) n dc) (hs : a.eval s = .slice ao n sc)
    (z : Value) (t : TypeId) (hg : w.heap[g]? = some (.cells (Array.replicate n z) t (0, 0))) (fs : List Nat) (hl : fs.length = n) (hsrc : FsSl w ao fs) (B : Nat) (w0 : World) (hb : Below B w0 w) (hBg : B ≤ g)
    (h : ∀ w', w'.heap[g]? = some (.cells (flC fs).toArray t (0, 0)) → Below B w0 w' → wpList Try.prog ops Q rest (a.put o.dst (goInt n)) w') : wpList Try.prog ops Q (o :: rest) a w := by
  have hlc : (flC fs).length = n := by simp [flC, hl]
  refine wpList_copy_splice hgd d s dT sT ho 22 hu (by kernel_rfl) (some ⟨g, 0, none⟩) ao n dc n sc hd hs g 0 (List.replicate n z) t ?_ (flC fs) (by rw [hlc]; exact (Nat.min_self n).symm) ?_ (by rw [hlc]; simp) (by intro v hv; unfold flC at hv; obtain ⟨x, _, rfl⟩ := List.mem_map.1 hv; rfl) B w0 hb hBg ?_
  · rw [hg]
    simp
  · intro h0
    obtain ⟨b, off, rfl, _, hf⟩ := hsrc (by omega)
    exact ⟨rfl, _, rfl, FsSl.cells hf⟩
  · intro w' hw' hb'
    rw [splice_all n z fs hl] at hw'
    rw [hlc]
    exact h w' hw' hb'

set_option maxRecDepth 4000 in
set_option maxHeartbeats 2000000 in
theorem sequence_any {d : Int} (hd : D4 d) (ao : Option Addr) (cap : Nat) (fs : List Nat) (hr : Int.tmod (fs.length : Int) (dimN d : Int) = 0) (hn : (fs.length : Int) ≤ 1000000) (w : World) (hc : FsSl w ao fs) :
    Calls Try.prog 132 #[.slice ao fs.length cap, .int .i64 d] w fun e w' => (∃ B, e = .returned (seqV d B fs.length fs.length) ∧ w.heap.size ≤ B ∧ B < w'.heap.size ∧ FsAt w' B 0 fs) ∧ Below w.heap.size w w' := by
  have h1 := Lib.hid (fun w => dimOf_any hd w)
  have h2 := Lib.hid (fun w => dim_any hd w)
  have h3 := Lib.hid (fun ao n cap hr hn w => newSeq_any hd ao n cap hr hn w)
  have hmk := make_f64 fs.length hn
  have hc' := Lib.hid hc
  have hm := dimN_cases d
  generalize dimN d = m at *
  clear hd hc
  have hr' := Lib.hid hr
  have hn' := Lib.hid hn
  rcases hm with rfl | rfl | rfl
  all_goals
    simp only [Int.cast_ofNat_Int] at *
    go_enter Try.func132, Try.ntmps132
    go_wp2_with (first | (go_at_call 94; refine (h1.out _).mono ?_; rintro e w' ⟨rfl, hq⟩; obtain ⟨q1, rfl⟩ := gr_of_below hq; clear hq) | (go_at_call 133; refine (h2.out _).mono ?_; rintro e w' ⟨rfl, hq⟩; obtain ⟨q2, rfl⟩ := gr_of_below hq; clear hq) | ((with_reducible show wpList _ _ _ ({ dst := _, op := .call { callee := .builtin .copy, args := _, argTypes := _ }, type := _, pos := _, after := _, guard := _ } :: _) _ _); refine wpList_copy_fs rfl _ _ _ _ rfl (by kernel_rfl) _ _ _ _ _ rfl rfl _ _ (alloc_at (by simp [go_sem])) fs rfl (hc'.out.below (by repeat (first | exact Below.refl _ _ | (refine below_gr' ?_ (by first | omega | (simp [go_sem] <;> omega))) | (refine Below.alloc ?_ (by first | omega | (simp [go_sem] <;> omega)) _) | refine Below.drew ?_ | (refine Below.setCell ?_ (by first | omega | (simp [go_sem] <;> omega)) _)))) (w.heap.size + 1) (w.alloc (.cells #[.int .u8 0, .slice none 0 0] 138)) (by repeat (first | exact Below.refl _ _ | (refine below_gr' ?_ (by first | omega | (simp [go_sem] <;> omega))) | (refine Below.alloc ?_ (by first | omega | (simp [go_sem] <;> omega)) _) | refine Below.drew ?_ | (refine Below.setCell ?_ (by first | omega | (simp [go_sem] <;> omega)) _))) (by omega) ?_; intro w2 hg2 hb2; have hg2' := Lib.hid hg2; have hb2' := Lib.hid hb2; clear hg2 hb2) | (go_at_call 152; refine (h3.out _ _ _ hr hn'.out _).mono ?_; rintro e w' ⟨rfl, hq⟩; obtain ⟨q3, rfl⟩ := gr_of_below hq; clear hq) | (refine wpList_store_blk rfl 138 _ _ rfl w.heap.size _ #[.int .u8 d, .slice _ fs.length fs.length] (((Blk.new w _ _).below hb2'.out (by simp)).gr _) rfl rfl seq_info rfl (seq_one _ _ _ _) ?_; intro w4 hb4 ho4; have hb4' := Lib.hid hb4; have ho4' := Lib.hid ho4; clear hb4 ho4))
    have hr4 := hb4'.out.cell
    have hG := hg2'.out
    have hlt := (Array.getElem?_eq_some_iff.1 hG).1
    have h4 := ho4'.out.block (w.heap.size + 1 + (rthen q1 q2).os.size) (by omega)
    rw [(gr_below w2 q3).block _ hlt, hG] at h4
    have hs2 := hb2'.out.size
    rw [show (w.alloc (.cells #[.int .u8 0, .slice none 0 0] 138)).heap.size = w.heap.size + 1 by simp] at hs2
    refine bodyPost_ret (v := seqV d (w.heap.size + 1 + (rthen q1 q2).os.size) fs.length fs.length) (by unfold seqV; simp [results, Try.results132, go_sem, hr4]) rfl ⟨⟨_, rfl, by omega, (Array.getElem?_eq_some_iff.1 h4).1, fsAt_of_blk h4⟩, ?_⟩
    exact (below_gr' (((Below.refl _ _).alloc (Nat.le_refl _) _).trans (hb2'.out.mono (by omega))) (by omega)).trans (ho4'.out.below (Nat.le_refl _))
end Go.Proofs.Ytpphfoggjejpiaa
