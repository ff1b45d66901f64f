/-
  The law's own least box around places. Conditions: as each theorem states them.
-/
import Derived.Test.YtpphfoggjejpiaaEq
import Derived.Deep.DeepCutAuto
import Derived.Deep.CutRange
import Derived.Deep.LoopGhost
namespace Go.Proofs.Ytpphfoggjejpiaa
open Go.RowKit Fl Go.Sort

theorem penv_info : (Try.prog.info? 41).map (·.size) = some 5 := by kernel_rfl

def En.pcells (e : En) : Array Value := #[.bool e.ne, .float .f64 e.a, .float .f64 e.b, .float .f64 e.c, .float .f64 e.d]
theorem En.pone (e : En) : ∀ v ∈ e.pcells.toList, v.oneCell' = true := by
  intro v hv
  simp only [En.pcells, List.mem_cons, List.not_mem_nil, or_false] at hv
  rcases hv with rfl | rfl | rfl | rfl | rfl <;> rfl

def updE (e : En) (p : Nat × Nat) : En :=
  if e.ne then ⟨if FloatKind.f64.format.order p.1 e.a == some .lt then p.1 else e.a, if FloatKind.f64.format.order p.2 e.b == some .lt then p.2 else e.b,
    if FloatKind.f64.format.order p.1 e.c == some .gt then p.1 else e.c, if FloatKind.f64.format.order p.2 e.d == some .gt then p.2 else e.d, true⟩
  else ⟨p.1, p.2, p.1, p.2, true⟩

def boxOf (ps : List (Nat × Nat)) : En := ps.foldl updE ⟨0, 0, 0, 0, false⟩

set_option maxHeartbeats 1000000 in
theorem eOf_any (b off cap : Nat) (ps : List (Nat × Nat)) (w : World) (hb : b < w.heap.size) (hlen : ps.length < 2 ^ 40) (hc : PtsAt w b off ps) :
    Calls Try.prog 28 #[.slice (some ⟨b, off, none⟩) ps.length cap] w fun en w' => en = .returned (boxOf ps).p ∧ Below w.heap.size w w' := by
  have hc' := Lib.hid hc
  clear hc
  go_enter Try.func28, Try.ntmps28
  go_wp2
  go_loopg [8] ps.length (fun g i wr => ∃ k : Nat, k ≤ ps.length ∧ g = ps.length - k ∧ i = .int .i64 k ∧ Below w.heap.size w wr ∧ Blk wr w.heap.size #[.bool false, .float .f64 0, .float .f64 0, .float .f64 0, .float .f64 0] ∧ Blk wr (w.heap.size + 1) (boxOf (ps.take k)).pcells)
  case atStart =>
    refine ⟨0, Nat.zero_le _, rfl, rfl, (by repeat (first | exact Below.refl _ _ | (refine below_gr' ?_ (by first | omega | (simp [go_sem] <;> omega))) | (refine Below.alloc ?_ (by first | omega | (simp [go_sem] <;> omega)) _) | refine Below.drew ?_ | (refine Below.setCell ?_ (by first | omega | (simp [go_sem] <;> omega)) _))), (Blk.new _ _ _).alloc _, ?_⟩
    exact Blk.new' _ _ _ _ (by simp)
  case round =>
    obtain ⟨k, hk, rfl, rfl, hbl, hR, hB⟩ := hrel
    obtain ⟨e, he⟩ : ∃ e, e = boxOf (ps.take k) := ⟨_, rfl⟩
    rw [← he] at hB
    have hlB := hB.lt
    have hR' := Lib.hid hR
    have hbl' := Lib.hid hbl
    have he' := Lib.hid he
    clear hR he
    by_cases hlt : k < ps.length
    · have hk1 := (hc'.out k hlt).1
      have hk2 := (hc'.out k hlt).2
      rw [← hbl.cell (p := ⟨b, off + k * 2, none⟩) hb] at hk1
      rw [← hbl.cell (p := ⟨b, off + k * 2 + 1, none⟩) hb] at hk2
      have hg : ps[k]?.getD (0, 0) = ps[k] := by simp [hlt]
      rw [hg] at hk1 hk2
      obtain ⟨x, hx⟩ : ∃ x, x = ps[k].1 := ⟨_, rfl⟩
      obtain ⟨y, hy⟩ : ∃ y, y = ps[k].2 := ⟨_, rfl⟩
      rw [← hx] at hk1
      rw [← hy] at hk2
      have hxy : Hid (boxOf (ps.take (k + 1)) = updE e (x, y)) := by
        unfold boxOf
        rw [List.take_succ_eq_append_getElem hlt, List.foldl_append, hx, hy]
        have := he'.out
        unfold boxOf at this
        rw [← this]; exact Lib.hid rfl
      clear hx hy hg hbl
      obtain ⟨ea, eb, ec, ed, ene⟩ := e
      have cB := hB.cell
      have fB := hB.frozen
      have hB' := Lib.hid hB
      clear hB
      unfold En.pcells at cB
      dsimp only at cB
      cases ene with
      | false =>
        unfold En.pcells at hB'
        dsimp only at hB'
        go_wp2_with (refine wpList_store_blk rfl 41 _ _ rfl (w.heap.size + 1) _ (En.pcells ⟨x, y, x, y, true⟩) (hB'.out.alloc _) rfl rfl penv_info rfl (En.pone _) ?_; intro w2 hb2 ho2; have hb2' := Lib.hid hb2; have ho2' := Lib.hid ho2; clear hb2 ho2)
        go_roundg (ps.length - (k + 1))
        case measure => omega
        case rel =>
          refine ⟨k + 1, by omega, rfl, by go_num, ?_, ?_, ?_⟩
          · have h1 := hbl'.out
            exact Below.trans (h1.alloc (by omega) _) (ho2'.out.below (by omega))
          · exact ho2'.out.blk (hR'.out.alloc _) (by omega)
          · rw [hxy.out]; exact hb2'.out
      | true =>
        unfold En.pcells at hB'
        dsimp only at hB'
        have hP : Blk (wr.alloc (.cells #[.float .f64 x, .float .f64 y] 24)) wr.heap.size #[.float .f64 x, .float .f64 y] := Blk.new _ _ _
        have hP' := Lib.hid hP
        clear hP
        have H1 : Hid (Below w.heap.size w (wr.alloc (.cells #[.float .f64 x, .float .f64 y] 24)) ∧ Blk (wr.alloc (.cells #[.float .f64 x, .float .f64 y] 24)) w.heap.size #[.bool false, .float .f64 0, .float .f64 0, .float .f64 0, .float .f64 0] ∧ Blk (wr.alloc (.cells #[.float .f64 x, .float .f64 y] 24)) (w.heap.size + 1) #[.bool true, .float .f64 ea, .float .f64 eb, .float .f64 ec, .float .f64 ed] ∧ Blk (wr.alloc (.cells #[.float .f64 x, .float .f64 y] 24)) wr.heap.size #[.float .f64 x, .float .f64 y]) := Lib.hid ⟨hbl'.out.alloc (by omega) _, hR'.out.alloc _, hB'.out.alloc _, hP'.out⟩
        obtain ⟨P, hPe⟩ : ∃ P, P = wr.heap.size := ⟨_, rfl⟩
        have hPlt : w.heap.size + 1 < P := by omega
        go_upto_if 30 with fail
        go_cut [] from 9 to 65 (fun wx => Below w.heap.size w wx ∧ Blk wx w.heap.size #[.bool false, .float .f64 0, .float .f64 0, .float .f64 0, .float .f64 0] ∧ Blk wx (w.heap.size + 1) #[.bool true, .float .f64 (if FloatKind.f64.format.order x ea == some .lt then x else ea), .float .f64 eb, .float .f64 ec, .float .f64 ed] ∧ Blk wx wr.heap.size #[.float .f64 x, .float .f64 y])
        case first =>
          go_wp2_with fail
          · go_meet
            have ht : (FloatKind.f64.format.order x ea == some .lt) = true := by assumption
            simp only [ht, ↓reduceIte]
            exact ⟨(Below.setCell (p := ⟨w.heap.size + 1, 1, none⟩) hbl'.out (by show w.heap.size ≤ w.heap.size + 1; omega) _).alloc (by simp [World.setCell]; omega) _, (Blk.setCell_ne (a := ⟨w.heap.size + 1, 1, none⟩) hR'.out (by show w.heap.size ≠ w.heap.size + 1; omega) _).alloc _, (Blk.setCell_eq hB'.out rfl).alloc _, Blk.new' _ _ _ _ (by simp [World.setCell])⟩
          · go_meet
            have ht : (FloatKind.f64.format.order x ea == some .lt) = false := by assumption
            simp only [ht, Bool.false_eq_true, ↓reduceIte]
            exact H1.out
        case rest =>
          have H2 := Lib.hid hcut
          have d1 := hcut.2.2.1.cell
          have d2 := hcut.2.2.1.frozen
          have d3 := hcut.2.2.2.cell
          clear hcut H1
          clear cB fB
          go_upto_if 40 with fail
          go_cut [] from 9 to 65 (fun wx => Below w.heap.size w wx ∧ Blk wx w.heap.size #[.bool false, .float .f64 0, .float .f64 0, .float .f64 0, .float .f64 0] ∧ Blk wx (w.heap.size + 1) #[.bool true, .float .f64 (if FloatKind.f64.format.order x ea == some .lt then x else ea), .float .f64 eb, .float .f64 (if FloatKind.f64.format.order x ec == some .gt then x else ec), .float .f64 ed] ∧ Blk wx wr.heap.size #[.float .f64 x, .float .f64 y])
          case first =>
            go_wp2_with fail
            · go_meet
              have ht : (FloatKind.f64.format.order x ec == some .gt) = true := by assumption
              simp only [ht, ↓reduceIte]
              exact ⟨Below.setCell (p := ⟨w.heap.size + 1, 3, none⟩) H2.out.1 (by show w.heap.size ≤ w.heap.size + 1; omega) _, Blk.setCell_ne (a := ⟨w.heap.size + 1, 3, none⟩) H2.out.2.1 (by show w.heap.size ≠ w.heap.size + 1; omega) _, Blk.setCell_eq H2.out.2.2.1 rfl, Blk.setCell_ne (a := ⟨w.heap.size + 1, 3, none⟩) H2.out.2.2.2 (by show wr.heap.size ≠ w.heap.size + 1; omega) _⟩
            · go_meet
              have ht : (FloatKind.f64.format.order x ec == some .gt) = false := by assumption
              simp only [ht, Bool.false_eq_true, ↓reduceIte]
              exact H2.out
          case rest =>
            have H3 := Lib.hid hcut
            have d1 := hcut.2.2.1.cell
            have d2 := hcut.2.2.1.frozen
            have d3 := hcut.2.2.2.cell
            clear hcut H2
            go_upto_if 50 with fail
            go_cut [] from 9 to 65 (fun wx => Below w.heap.size w wx ∧ Blk wx w.heap.size #[.bool false, .float .f64 0, .float .f64 0, .float .f64 0, .float .f64 0] ∧ Blk wx (w.heap.size + 1) #[.bool true, .float .f64 (if FloatKind.f64.format.order x ea == some .lt then x else ea), .float .f64 (if FloatKind.f64.format.order y eb == some .lt then y else eb), .float .f64 (if FloatKind.f64.format.order x ec == some .gt then x else ec), .float .f64 ed] ∧ Blk wx wr.heap.size #[.float .f64 x, .float .f64 y])
            case first =>
              go_wp2_with fail
              · go_meet
                have ht : (FloatKind.f64.format.order y eb == some .lt) = true := by assumption
                simp only [ht, ↓reduceIte]
                exact ⟨Below.setCell (p := ⟨w.heap.size + 1, 2, none⟩) H3.out.1 (by show w.heap.size ≤ w.heap.size + 1; omega) _, Blk.setCell_ne (a := ⟨w.heap.size + 1, 2, none⟩) H3.out.2.1 (by show w.heap.size ≠ w.heap.size + 1; omega) _, Blk.setCell_eq H3.out.2.2.1 rfl, Blk.setCell_ne (a := ⟨w.heap.size + 1, 2, none⟩) H3.out.2.2.2 (by show wr.heap.size ≠ w.heap.size + 1; omega) _⟩
              · go_meet
                have ht : (FloatKind.f64.format.order y eb == some .lt) = false := by assumption
                simp only [ht, Bool.false_eq_true, ↓reduceIte]
                exact H3.out
            case rest =>
              have H4 := Lib.hid hcut
              have d1 := hcut.2.2.1.cell
              have d2 := hcut.2.2.1.frozen
              have d3 := hcut.2.2.2.cell
              clear hcut H3
              go_wp2
              · have ht : (FloatKind.f64.format.order y ed == some .gt) = true := by assumption
                have ht' := Lib.hid ht
                clear ht
                go_roundg (ps.length - (k + 1))
                case measure => omega
                case rel =>
                  refine ⟨k + 1, by omega, rfl, by go_num, Below.setCell (p := ⟨w.heap.size + 1, 4, none⟩) H4.out.1 (by show w.heap.size ≤ w.heap.size + 1; omega) _, Blk.setCell_ne (a := ⟨w.heap.size + 1, 4, none⟩) H4.out.2.1 (by show w.heap.size ≠ w.heap.size + 1; omega) _, ?_⟩
                  rw [hxy.out]
                  refine Blk.setCell_eq H4.out.2.2.1 ?_
                  simp only [updE, En.pcells, ht'.out, ↓reduceIte]
                  rfl
              · have ht : (FloatKind.f64.format.order y ed == some .gt) = false := by assumption
                have ht' := Lib.hid ht
                clear ht
                go_roundg (ps.length - (k + 1))
                case measure => omega
                case rel =>
                  refine ⟨k + 1, by omega, rfl, by go_num, H4.out.1, H4.out.2.1, ?_⟩
                  rw [hxy.out]
                  simp only [updE, En.pcells, ht'.out, Bool.false_eq_true, ↓reduceIte]
                  exact H4.out.2.2.1
    · have hkk : k = ps.length := by omega
      subst hkk
      rw [List.take_length] at he'
      have cB := hB.cell
      have hB' := Lib.hid hB
      clear hB
      unfold En.pcells at cB
      go_wp2_with (refine wpList_store_blk rfl 41 _ _ rfl w.heap.size _ e.pcells hR'.out rfl rfl penv_info rfl (En.pone _) ?_; intro w2 hb2 ho2; have hb2' := Lib.hid hb2; have ho2' := Lib.hid ho2; clear hb2 ho2)
      have hr := hb2'.out.cell
      unfold En.pcells at hr
      refine bodyPost_ret (v := e.p) (by unfold En.p; simp [results, Try.results28, go_sem, hr]) rfl ⟨by rw [he'.out], hbl'.out.trans (ho2'.out.below (Nat.le_refl _))⟩
end Go.Proofs.Ytpphfoggjejpiaa
