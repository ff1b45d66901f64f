/-
  The walks over sequences of any type's number: the last two bits count, numbers that fill no place are left away. Conditions: as each theorem states them.
-/
import Derived.Test.YtpphfoggjejpiaaMb
namespace Go.Proofs.Ytpphfoggjejpiaa
open Go.RowKit Fl Go.Sort

theorem and3 (d : Int) : bits .and .i64 d 3 = d % 4 := by
  show IntKind.i64.wrap ((BitVec.ofInt 64 d &&& BitVec.ofInt 64 3).toNat : Int) = _
  rw [BitVec.toNat_and]
  have h2 : (BitVec.ofInt 64 (3 : Int)).toNat = 3 := by decide
  have h1 : (BitVec.ofInt 64 d).toNat = (d % 18446744073709551616).toNat := by simp [BitVec.toNat_ofInt]
  rw [h1, h2, show (3 : Nat) = 2 ^ 2 - 1 from rfl, Nat.and_two_pow_sub_one_eq_mod]
  unfold IntKind.wrap
  simp only [IntKind.bits, IntKind.signed]
  have e1 : ((d % 18446744073709551616).toNat : Int) = d % 18446744073709551616 := Int.toNat_of_nonneg (Int.emod_nonneg _ (by decide))
  have e2 : (d % 18446744073709551616) % 4 = d % 4 := by omega
  simp
  omega

theorem d4_mod (d : Int) : D4 (d % 4) := by unfold D4; omega

theorem dimOf_gen {d e : Int} (hd : D4 e) (he : bits .and .i64 d 3 = e) (w : World) :
    Calls Try.prog 94 #[.int .i64 d] w fun en w' => en = .returned (.int .u8 e) ∧ Below w.heap.size w w' := by
  rcases hd with rfl | rfl | rfl | rfl
  all_goals
    go_enter Try.func94, Try.ntmps94
    go_wp2
    go_ret
    exact ⟨by first | rfl | kernel_rfl, (by repeat (first | exact Below.refl _ _ | (refine below_gr' ?_ (by first | omega | (simp [go_sem] <;> omega))) | (refine Below.alloc ?_ (by first | omega | (simp [go_sem] <;> omega)) _) | refine Below.drew ?_ | (refine Below.setCell ?_ (by first | omega | (simp [go_sem] <;> omega)) _)))⟩

theorem FsAt.take {w : World} {b off : Nat} {fs : List Nat} (h : FsAt w b off fs) (n : Nat) : FsAt w b off (fs.take n) := by
  intro i hi
  rw [List.length_take] at hi
  rw [List.getElem?_take_of_lt (by omega)]
  exact h i (by omega)

theorem FsSl.take {w : World} {ao : Option Addr} {fs : List Nat} (h : FsSl w ao fs) (n : Nat) : FsSl w ao (fs.take n) := by
  intro h0
  rw [List.length_take] at h0
  obtain ⟨b, off, rfl, hlt, hf⟩ := h (by omega)
  exact ⟨b, off, rfl, hlt, hf.take n⟩

theorem wpList_copy_ft {ops : Array Oper} {rest : List Oper} {o : Oper} {a : Act} {w : World} {Q : Exit → Act → World → Prop} (hgd : o.guard = none) (d s : Operand) (dT sT : TypeId)
    (ho : o.op = .call { callee := .builtin .copy, args := #[d, s], argTypes := #[dT, sT] }) (hu : Try.prog.underlying dT = some (.slice 22)) (g n dc sl sc : Nat) (ao : Option Addr) (hd : a.eval d = .slice (some ⟨g, 0, none⟩) n dc) (hs : a.eval s = .slice ao sl sc)
    (z : Value) (t : TypeId) (hg : w.heap[g]? = some (.cells (Array.replicate n z) t (0, 0))) (fs : List Nat) (hl : fs.length = sl) (hle : n ≤ sl) (hsrc : FsSl w ao fs) (B : Nat) (w0 : World) (hb : Below B w0 w) (hBg : B ≤ g)
    (h : ∀ w', w'.heap[g]? = some (.cells (flC (fs.take n)).toArray t (0, 0)) → Below B w0 w' → wpList Try.prog ops Q rest (a.put o.dst (goInt n)) w') : wpList Try.prog ops Q (o :: rest) a w := by
  have hln : (fs.take n).length = n := by rw [List.length_take]; omega
  have hlc : (flC (fs.take n)).length = n := by simp [flC]; omega
  refine wpList_copy_splice hgd d s dT sT ho 22 hu (by kernel_rfl) (some ⟨g, 0, none⟩) ao n dc sl sc hd hs g 0 (List.replicate n z) t ?_ (flC (fs.take n)) (by rw [hlc]; exact (Nat.min_eq_right hle).symm) ?_ (by rw [hlc]; simp) (by intro v hv; unfold flC at hv; obtain ⟨x, _, rfl⟩ := List.mem_map.1 hv; rfl) B w0 hb hBg ?_
  · rw [hg]
    simp
  · intro h0
    obtain ⟨b, off, rfl, _, hf⟩ := (hsrc.take n) (by omega)
    exact ⟨rfl, _, rfl, FsSl.cells hf⟩
  · intro w' hw' hb'
    rw [splice_all n z _ hln] at hw'
    rw [hlc]
    exact h w' hw' hb'

set_option maxRecDepth 4000 in
set_option maxHeartbeats 2000000 in
theorem sequence_gen {d e : Int} (hd : D4 e) (he : bits .and .i64 d 3 = e) (ao : Option Addr) (cap : Nat) (fs : List Nat) (nn : Nat) (hnn : nn = fs.length - fs.length % dimN e) (hn : (fs.length : Int) ≤ 1000000) (w : World) (hc : FsSl w ao fs) :
    Calls Try.prog 132 #[.slice ao fs.length cap, .int .i64 d] w fun en w' => (∃ B, en = .returned (seqV e B nn nn) ∧ w.heap.size ≤ B ∧ B < w'.heap.size ∧ FsAt w' B 0 (fs.take nn)) ∧ Below w.heap.size w w' := by
  have hm := dimN_cases e
  have hnl : nn ≤ fs.length := by omega
  have hr : Int.tmod (nn : Int) (dimN e : Int) = 0 := by
    have : nn % dimN e = 0 := by
      rw [hnn]
      have := Nat.div_add_mod fs.length (dimN e)
      have e2 : fs.length - fs.length % dimN e = dimN e * (fs.length / dimN e) := by omega
      rw [e2]; exact Nat.mul_mod_right _ _
    exact congrArg Int.ofNat this
  have hsub : (fs.length : Int) - (fs.length : Int) % (dimN e : Int) = (nn : Int) := by
    have : fs.length % dimN e ≤ fs.length := Nat.mod_le _ _
    omega
  have h1 := Lib.hid (fun w => dimOf_gen hd he w)
  have h2 := Lib.hid (fun w => dim_any hd w)
  have h3 := Lib.hid (fun ao n cap hr hn w => newSeq_any hd ao n cap hr hn w)
  have hnc : (nn : Int) ≤ 1000000 := by omega
  have hmk := make_f64 nn hnc
  have hc' := Lib.hid hc
  have hnl' := Lib.hid hnl
  generalize dimN e = m at *
  clear hd hc hnn he
  have hr' := Lib.hid hr
  have hn' := Lib.hid hn
  have hnc' := Lib.hid hnc
  rcases hm with rfl | rfl | rfl
  all_goals
    simp only [Int.cast_ofNat_Int] at *
    go_enter Try.func132, Try.ntmps132
    go_wp2_with (first | (go_at_call 94; refine (h1.out _).mono ?_; rintro e w' ⟨rfl, hq⟩; obtain ⟨q1, rfl⟩ := gr_of_below hq; clear hq) | (go_at_call 133; refine (h2.out _).mono ?_; rintro e w' ⟨rfl, hq⟩; obtain ⟨q2, rfl⟩ := gr_of_below hq; clear hq) | ((with_reducible show wpList _ _ _ ({ dst := _, op := .call { callee := .builtin .copy, args := _, argTypes := _ }, type := _, pos := _, after := _, guard := _ } :: _) _ _); refine wpList_copy_ft rfl _ _ _ _ rfl (by kernel_rfl) _ _ _ _ _ _ rfl rfl _ _ (alloc_at (by simp [go_sem])) fs rfl hnl'.out (hc'.out.below (by repeat (first | exact Below.refl _ _ | (refine below_gr' ?_ (by first | omega | (simp [go_sem] <;> omega))) | (refine Below.alloc ?_ (by first | omega | (simp [go_sem] <;> omega)) _) | refine Below.drew ?_ | (refine Below.setCell ?_ (by first | omega | (simp [go_sem] <;> omega)) _)))) (w.heap.size + 1) (w.alloc (.cells #[.int .u8 0, .slice none 0 0] 138)) (by repeat (first | exact Below.refl _ _ | (refine below_gr' ?_ (by first | omega | (simp [go_sem] <;> omega))) | (refine Below.alloc ?_ (by first | omega | (simp [go_sem] <;> omega)) _) | refine Below.drew ?_ | (refine Below.setCell ?_ (by first | omega | (simp [go_sem] <;> omega)) _))) (by omega) ?_; intro w2 hg2 hb2; have hg2' := Lib.hid hg2; have hb2' := Lib.hid hb2; clear hg2 hb2) | (go_at_call 152; refine (h3.out _ _ _ hr'.out hnc'.out _).mono ?_; rintro e w' ⟨rfl, hq⟩; obtain ⟨q3, rfl⟩ := gr_of_below hq; clear hq) | (refine wpList_store_blk rfl 138 _ _ rfl w.heap.size _ #[.int .u8 e, .slice _ nn nn] (((Blk.new w _ _).below hb2'.out (by simp)).gr _) rfl rfl seq_info rfl (seq_one _ _ _ _) ?_; intro w4 hb4 ho4; have hb4' := Lib.hid hb4; have ho4' := Lib.hid ho4; clear hb4 ho4))
    have hr4 := hb4'.out.cell
    have hG := hg2'.out
    have hlt := (Array.getElem?_eq_some_iff.1 hG).1
    have h4 := ho4'.out.block (w.heap.size + 1 + (rthen q1 q2).os.size) (by omega)
    rw [(gr_below w2 q3).block _ hlt, hG] at h4
    have hs2 := hb2'.out.size
    rw [show (w.alloc (.cells #[.int .u8 0, .slice none 0 0] 138)).heap.size = w.heap.size + 1 by simp] at hs2
    refine bodyPost_ret (v := seqV e (w.heap.size + 1 + (rthen q1 q2).os.size) nn nn) (by unfold seqV; simp [results, Try.results132, go_sem, hr4]) rfl ⟨⟨_, rfl, by omega, (Array.getElem?_eq_some_iff.1 h4).1, fsAt_of_blk h4⟩, ?_⟩
    exact (below_gr' (((Below.refl _ _).alloc (Nat.le_refl _) _).trans (hb2'.out.mono (by omega))) (by omega)).trans (ho4'.out.below (Nat.le_refl _))

set_option maxHeartbeats 1000000 in
theorem line_gen {d e : Int} (hd : D4 e) (he : bits .and .i64 d 3 = e) (ao : Option Addr) (cap : Nat) (fs : List Nat) (ko : Option Addr) (kl kc nn : Nat) (hnn : nn = fs.length - fs.length % dimN e) (hn : (fs.length : Int) ≤ 1000000) (w : World) (hc : FsSl w ao fs) :
    Calls Try.prog 89 #[lineV d ao fs.length cap ko kl kc] w fun en w' => (∃ B, en = .returned (seqV e B nn nn) ∧ w.heap.size ≤ B ∧ B < w'.heap.size ∧ FsAt w' B 0 (fs.take nn)) ∧ Below w.heap.size w w' := by
  have hs := Lib.hid (fun w' (hb : Below w.heap.size w w') => sequence_gen hd he ao cap fs nn hnn hn w' (hc.below hb))
  have hnl := Lib.hid (fun b n cap w => newLine_any e b n cap w)
  clear hd hnn hn hc he
  unfold lineV
  unfold seqV at *
  go_enter Try.func89, Try.ntmps89
  go_wp2_with (first | (go_at_call 132; refine (hs.out _ (by repeat (first | exact Below.refl _ _ | (refine below_gr' ?_ (by first | omega | (simp [go_sem] <;> omega))) | (refine Below.alloc ?_ (by first | omega | (simp [go_sem] <;> omega)) _) | refine Below.drew ?_ | (refine Below.setCell ?_ (by first | omega | (simp [go_sem] <;> omega)) _)))).mono ?_; rintro e w' ⟨⟨B, rfl, hge, hlt, hfs⟩, hq⟩; obtain ⟨q1, rfl⟩ := gr_of_below hq; clear hq; have hge' := Lib.hid hge; have hlt' := Lib.hid hlt; have hfs' := Lib.hid hfs; clear hge hlt hfs) | (go_at_call 131; refine (hnl.out _ _ _ _).mono ?_; rintro e w' ⟨rfl, hq⟩; obtain ⟨q2, rfl⟩ := gr_of_below hq; clear hq))
  have hs0 : ∀ (o1 o2 : Obj), ((w.alloc o1).alloc o2).heap.size = w.heap.size + 1 + 1 := fun _ _ => by simp
  have hge : w.heap.size + 1 + 1 ≤ B := by have h := hge'.out; rw [hs0] at h; exact h
  have hlt : B < w.heap.size + 1 + 1 + q1.os.size := by have h := hlt'.out; rw [gr_size, hs0] at h; exact h
  refine bodyPost_ret (v := .agg #[.int .u8 e, .slice (some ⟨B, 0, none⟩) nn nn]) (by simp [results, Try.results89, go_sem]) rfl ⟨⟨B, rfl, by omega, ?_, hfs'.out.of_same ?_⟩, (by repeat (first | exact Below.refl _ _ | (refine below_gr' ?_ (by first | omega | (simp [go_sem] <;> omega))) | (refine Below.alloc ?_ (by first | omega | (simp [go_sem] <;> omega)) _) | refine Below.drew ?_ | (refine Below.setCell ?_ (by first | omega | (simp [go_sem] <;> omega)) _)))⟩
  · rw [← gr_gr]
    exact Nat.lt_of_lt_of_le (by rw [gr_size, hs0]; exact hlt) (gr_below _ q2).size
  · rw [← gr_gr, (gr_below _ q2).block B (by rw [gr_size, hs0]; exact hlt)]
    exact gr_alloc_other _ _ _ q1 B (by simp; omega)
end Go.Proofs.Ytpphfoggjejpiaa
