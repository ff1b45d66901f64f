/-
  The walks over envelopes, continued: the envelope of a list of places. Conditions: as each theorem states them.
-/
import Derived.Test.YtpphfoggjejpiaaEn
import Derived.Test.YtpphfoggjejpiaaBk
namespace Go.Proofs.Ytpphfoggjejpiaa
open Go.RowKit Fl Go.Sort

theorem env_info : (Try.prog.info? 117).map (·.size) = some 5 := by kernel_rfl

def En.cells (e : En) : Array Value := #[.float .f64 e.a, .float .f64 e.b, .float .f64 e.c, .float .f64 e.d, .bool e.ne]
theorem En.one (e : En) : ∀ v ∈ e.cells.toList, v.oneCell' = true := by
  intro v hv
  simp only [En.cells, List.mem_cons, List.not_mem_nil, or_false] at hv
  rcases hv with rfl | rfl | rfl | rfl | rfl <;> rfl

theorem newEnv_any (b off cap : Nat) (ps : List (Nat × Nat)) (w : World) (hb : b < w.heap.size) (hlen : ps.length < 2 ^ 40) (hc : PtsAt w b off ps) :
    Calls Try.prog 78 #[.slice (some ⟨b, off, none⟩) ps.length cap] w fun en w' => en = .returned (ps.foldl expE ⟨0, 0, 0, 0, false⟩).v ∧ Below w.heap.size w w' := by
  have hc' := Lib.hid hc
  clear hc
  go_enter Try.func78, Try.ntmps78
  go_wp2
  go_loopw [8] (fun i wr => ∃ k : Nat, k ≤ ps.length ∧ i = .int .i64 k ∧ Below w.heap.size w wr ∧ Blk wr w.heap.size #[.float .f64 0, .float .f64 0, .float .f64 0, .float .f64 0, .bool false] ∧ Blk wr (w.heap.size + 1) ((ps.take k).foldl expE ⟨0, 0, 0, 0, false⟩).cells) (fun i _ => ps.length - (intOf i).toNat)
  case atStart =>
    refine ⟨0, Nat.zero_le _, rfl, (by repeat (first | exact Below.refl _ _ | (refine below_gr' ?_ (by first | omega | (simp [go_sem] <;> omega))) | (refine Below.alloc ?_ (by first | omega | (simp [go_sem] <;> omega)) _) | refine Below.drew ?_ | (refine Below.setCell ?_ (by first | omega | (simp [go_sem] <;> omega)) _))), (Blk.new _ _ _).alloc _, ?_⟩
    exact Blk.new' _ _ _ _ (by simp)
  case round =>
    obtain ⟨k, hk, rfl, hbl, hR, hB⟩ := hrel
    obtain ⟨e, he⟩ : ∃ e, e = (ps.take k).foldl expE ⟨0, 0, 0, 0, false⟩ := ⟨_, rfl⟩
    rw [← he] at hB
    have cB := hB.cell
    have hlB := hB.lt
    unfold En.cells at cB
    have hB' := Lib.hid hB
    have hR' := Lib.hid hR
    have hbl' := Lib.hid hbl
    have he' := Lib.hid he
    clear hB hR he
    by_cases hlt : k < ps.length
    · have hk1 := (hc'.out k hlt).1
      have hk2 := (hc'.out k hlt).2
      rw [← hbl.cell (p := ⟨b, off + k * 2, none⟩) hb] at hk1
      rw [← hbl.cell (p := ⟨b, off + k * 2 + 1, none⟩) hb] at hk2
      have hg : ps[k]?.getD (0, 0) = ps[k] := by simp [hlt]
      rw [hg] at hk1 hk2
      obtain ⟨x, hx⟩ : ∃ x, x = ps[k].1 := ⟨_, rfl⟩
      obtain ⟨y, hy⟩ : ∃ y, y = ps[k].2 := ⟨_, rfl⟩
      rw [← hx] at hk1
      rw [← hy] at hk2
      have hxy : Hid ((ps.take (k + 1)).foldl expE ⟨0, 0, 0, 0, false⟩ = expE e (x, y)) := by
        rw [List.take_succ_eq_append_getElem hlt, List.foldl_append, ← he'.out, hx, hy]; exact Lib.hid rfl
      clear hx hy hg hbl
      have hex := Lib.hid (fun w => expand_any e x y w)
      unfold En.v at hex
      go_wp2_with (first | (go_at_call 77; refine (hex.out _).mono ?_; rintro en w' ⟨rfl, hq⟩; obtain ⟨q, rfl⟩ := gr_of_below hq; clear hq) | (refine wpList_store_blk rfl 117 _ _ rfl (w.heap.size + 1) e.cells (expE e (x, y)).cells ((hB'.out.alloc _).gr _) rfl rfl env_info rfl (En.one _) ?_; intro w2 hb2 ho2; have hb2' := Lib.hid hb2; have ho2' := Lib.hid ho2; clear hb2 ho2))
      go_roundw
      case rel =>
        refine ⟨k + 1, by omega, by go_num, ?_, ?_, ?_⟩
        · have h1 := hbl'.out
          exact Below.trans (by repeat (first | exact h1 | (refine below_gr' ?_ (by first | omega | (simp [go_sem] <;> omega))) | (refine Below.alloc ?_ (by first | omega | (simp [go_sem] <;> omega)) _))) (ho2'.out.below (by omega))
        · exact ho2'.out.blk ((hR'.out.alloc _).gr _) (by omega)
        · rw [hxy.out]; exact hb2'.out
      case measure => simp [intOf]; omega
    · have hkk : k = ps.length := by omega
      subst hkk
      rw [List.take_length] at he'
      go_wp2_with (refine wpList_store_blk rfl 117 _ _ rfl w.heap.size _ e.cells hR'.out rfl rfl env_info rfl (En.one _) ?_; intro w2 hb2 ho2; have hb2' := Lib.hid hb2; have ho2' := Lib.hid ho2; clear hb2 ho2)
      have hr := hb2'.out.cell
      unfold En.cells at hr
      refine bodyPost_ret (v := e.v) (by unfold En.v; simp [results, Try.results78, go_sem, hr]) rfl ⟨by rw [he'.out], hbl'.out.trans (ho2'.out.below (Nat.le_refl _))⟩
end Go.Proofs.Ytpphfoggjejpiaa
