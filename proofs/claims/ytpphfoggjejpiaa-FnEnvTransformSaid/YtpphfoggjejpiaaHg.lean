/-
  FnEnvTransform: its walk, continued: an envelope with ends, a map along the axes. Conditions: whole numbers from -2^20 to 2^20.
-/
import Derived.Test.YtpphfoggjejpiaaHf
namespace Go.Proofs.Ytpphfoggjejpiaa
open Go.RowKit Fl Go.Sort

theorem cor_some {a b c d : Nat} {v : Value} {w : World} (h : Cor ⟨a, b, c, d, true⟩ v w) : ∃ B, v = .slice (some ⟨B, 0, none⟩) 2 2 ∧ Blk w B #[.float .f64 a, .float .f64 b, .float .f64 c, .float .f64 d] := by
  rcases h with ⟨_, B, h1, h2⟩ | h
  · exact ⟨B, h1, h2⟩
  · cases h.1

set_option maxRecDepth 8000 in
set_option maxHeartbeats 4000000 in
theorem et_main {na nb nc nd : Nat} {X Y Z T : Int} (hn : EnI ⟨na, nb, nc, nd, true⟩ X Y Z T) {a b c d f g : Nat} {A C E F : Int} (hmp : MapI a b c d f g A 0 C 0 E F) (u : En)
    (hR : whE ⟨na, nb, nc, nd, true⟩ = true) (hM : (wholeB a && wholeB b && wholeB c && wholeB d && wholeB f && wholeB g) = true) (h1 : (FloatKind.f64.format.order b 0 != some .eq) = false) (h2 : (FloatKind.f64.format.order d 0 != some .eq) = false)
    (ht : ∀ w, Calls Try.prog 39 #[(⟨na, nb, nc, nd, true⟩ : En).p, mapV a b c d f g] w fun en w' => en = .returned u.p ∧ Below w.heap.size w w') (w : World) :
    Calls Try.prog 9 #[(⟨na, nb, nc, nd, true⟩ : En).p, mapV a b c d f g] w fun en w' => en = .returned (.bool (eqE u (boxOf [lawP A C E F X Y, lawP A C E F Z T]))) ∧ Below w.heap.size w w' := by
  have hr := Lib.hid (fun b off cap w hlt hE => eRound_any b off cap ⟨na, nb, nc, nd, true⟩ w hlt hE)
  have hm := Lib.hid (fun w => mapAll_any a b c d f g w)
  have hco := Lib.hid (fun w => corners_any ⟨na, nb, nc, nd, true⟩ w)
  have htr := Lib.hid ht
  have heq := Lib.hid (fun w => eEqual_any u (boxOf [lawP A C E F X Y, lawP A C E F Z T]) w)
  rw [hR] at hr
  rw [hM] at hm
  have bd : ∀ n : Int, W20 n → n.natAbs < 2 ^ 53 := by intro n h; unfold W20 at h; omega
  have cA := conv_I (P := Try.prog) hmp.a (bd _ hmp.ka) 22 3 (by kernel_rfl) (by kernel_rfl)
  have cC := conv_I (P := Try.prog) hmp.c (bd _ hmp.kc) 22 3 (by kernel_rfl) (by kernel_rfl)
  have cE := conv_I (P := Try.prog) hmp.e (bd _ hmp.ke) 22 3 (by kernel_rfl) (by kernel_rfl)
  have cF := conv_I (P := Try.prog) hmp.f (bd _ hmp.kf) 22 3 (by kernel_rfl) (by kernel_rfl)
  have cX := conv_I (P := Try.prog) hn.a (bd _ hn.ka) 22 3 (by kernel_rfl) (by kernel_rfl)
  have cY := conv_I (P := Try.prog) hn.b (bd _ hn.kb) 22 3 (by kernel_rfl) (by kernel_rfl)
  have cZ := conv_I (P := Try.prog) hn.c (bd _ hn.kc) 22 3 (by kernel_rfl) (by kernel_rfl)
  have cT := conv_I (P := Try.prog) hn.d (bd _ hn.kd) 22 3 (by kernel_rfl) (by kernel_rfl)
  dsimp only at cX cY cZ cT
  obtain ⟨wA1, wA2⟩ := hmp.ka
  obtain ⟨wC1, wC2⟩ := hmp.kc
  obtain ⟨wE1, wE2⟩ := hmp.ke
  obtain ⟨wF1, wF2⟩ := hmp.kf
  obtain ⟨wX1, wX2⟩ := hn.ka
  obtain ⟨wY1, wY2⟩ := hn.kb
  obtain ⟨wZ1, wZ2⟩ := hn.kc
  obtain ⟨wT1, wT2⟩ := hn.kd
  obtain ⟨p11, p12⟩ := prod_bound (a := A) (b := X) (by omega) (by omega)
  obtain ⟨p21, p22⟩ := prod_bound (a := E) (b := Y) (by omega) (by omega)
  obtain ⟨p31, p32⟩ := prod_bound (a := A) (b := Z) (by omega) (by omega)
  obtain ⟨p41, p42⟩ := prod_bound (a := E) (b := T) (by omega) (by omega)
  clear hR hM ht hn hmp bd
  unfold En.p mapV at *
  dsimp only at *
  go_enter Try.func9, Try.ntmps9
  go_wp2_with (first | (go_at_call 36; refine (hr.out _ _ _ _ (by simp) ⟨by go_simp, by go_simp, by go_simp, by go_simp, by go_simp⟩).mono ?_; rintro e w' ⟨rfl, hq⟩; obtain ⟨q, rfl⟩ := gr_of_below hq; clear hq) | (go_at_call 37; refine (hm.out _).mono ?_; rintro e w' ⟨rfl, hq⟩; obtain ⟨q, rfl⟩ := gr_of_below hq; clear hq) | (go_at_call 29; refine (hco.out _).mono ?_; rintro e w' ⟨⟨v, rfl, hv⟩, hq⟩; obtain ⟨B, hv', hB⟩ := cor_some hv; obtain ⟨q, rfl⟩ := gr_of_below hq; clear hq hv; subst hv'; have hB' := Lib.hid hB; clear hB))
  refine gen_world (fun W => Blk W w.heap.size #[.bool true, .float .f64 na, .float .f64 nb, .float .f64 nc, .float .f64 nd] ∧ Blk W (w.heap.size + 1) #[.float .f64 a, .float .f64 b, .float .f64 c, .float .f64 d, .float .f64 f, .float .f64 g] ∧ Blk W B #[.float .f64 na, .float .f64 nb, .float .f64 nc, .float .f64 nd] ∧ Below w.heap.size w W) ⟨?bE, ?bM, ?bB, ?bl⟩ ?_
  case bE => exact ((((Blk.new' _ _ _ _ (by simp)).alloc _).alloc _).gr _).of_same rfl
  case bM => exact (((Blk.new' _ _ _ _ (by simp)).alloc _).gr _).of_same rfl
  case bB => simpa only [gr_gr] using hB'.out
  case bl => exact (by repeat (first | exact Below.refl _ _ | (refine below_gr' ?_ (by first | omega | (simp [go_sem] <;> omega))) | (refine Below.alloc ?_ (by first | omega | (simp [go_sem] <;> omega)) _) | refine Below.drew ?_ | (refine Below.setCell ?_ (by first | omega | (simp [go_sem] <;> omega)) _)))
  rintro W ⟨hBE, hBM, hBB, hBW⟩
  clear hB' hr hm hco
  go_loopw [5, 30] (fun v i wr => ∃ k : Nat, k ≤ 2 ∧ i = .int .i64 k ∧ OwnP wr W.heap.size v ([lawP A C E F X Y, lawP A C E F Z T].take k) ∧ Below W.heap.size W wr) (fun _ i _ => 2 - (intOf i).toNat)
  case atStart => exact ⟨0, by omega, rfl, OwnP.nil _ _, Below.refl _ _⟩
  case round =>
    obtain ⟨k, hk, rfl, hown, hbl⟩ := hrel
    have hk3 : k = 0 ∨ k = 1 ∨ k = 2 := by omega
    rcases hk3 with rfl | rfl | rfl
    · skip
      have hown' := Lib.hid hown
      have hbl' := Lib.hid hbl
      have hsz := Lib.hid hbl.size
      have hltM := (hBM.below hbl hBM.lt).lt
      have hltB := (hBB.below hbl hBB.lt).lt
      have hM1 := (hBM.below hbl hBM.lt).cell
      have hB1 := (hBB.below hbl hBB.lt).cell
      clear hown hbl hk
      go_wp2_with (at_builtin; refine wpList_append_xy rfl _ _ _ rfl (by kernel_rfl) W.heap.size _ (List.take 0 [lawP A C E F X Y, lawP A C E F Z T]) rfl (World.ownsRow.alloc (World.ownsRow.alloc hown'.out _) _) (wr.heap.size + 1) 0 1 (lawP A C E F X Y).1 (lawP A C E F X Y).2 rfl (by simp [go_sem, lawP]) (by simp [go_sem, lawP]) (by simp) (by have := hsz.out; simp; omega) ?_; intro v' w1 ho hb1; have ho' := Lib.hid ho; have hb2 := Lib.hid (((hbl'.out.alloc hbl'.out.size _).alloc (by have := hsz.out; simp; omega) _).trans hb1); clear ho hb1)
      go_roundw
      case rel => exact ⟨1, by omega, by go_num, ho'.out, hb2.out⟩
      case measure => simp [intOf]
    · skip
      have hown' := Lib.hid hown
      have hbl' := Lib.hid hbl
      have hsz := Lib.hid hbl.size
      have hltM := (hBM.below hbl hBM.lt).lt
      have hltB := (hBB.below hbl hBB.lt).lt
      have hM1 := (hBM.below hbl hBM.lt).cell
      have hB1 := (hBB.below hbl hBB.lt).cell
      clear hown hbl hk
      go_wp2_with (at_builtin; refine wpList_append_xy rfl _ _ _ rfl (by kernel_rfl) W.heap.size _ (List.take 1 [lawP A C E F X Y, lawP A C E F Z T]) rfl (World.ownsRow.alloc (World.ownsRow.alloc hown'.out _) _) (wr.heap.size + 1) 0 1 (lawP A C E F Z T).1 (lawP A C E F Z T).2 rfl (by simp [go_sem, lawP]) (by simp [go_sem, lawP]) (by simp) (by have := hsz.out; simp; omega) ?_; intro v' w1 ho hb1; have ho' := Lib.hid ho; have hb2 := Lib.hid (((hbl'.out.alloc hbl'.out.size _).alloc (by have := hsz.out; simp; omega) _).trans hb1); clear ho hb1)
      go_roundw
      case rel => exact ⟨2, by omega, by go_num, ho'.out, hb2.out⟩
      case measure => simp [intOf]
    · have hof := Lib.hid (OwnP.form hown (by simp))
      have hE1 := (hBE.below hbl hBE.lt).cell
      have hM1 := (hBM.below hbl hBM.lt).cell
      have hBW' := Lib.hid (hBW.trans (hbl.mono hBW.size))
      clear hown hbl hBE hBM hBB hBW cA cC cE cF cX cY cZ cT wA1 wA2 wC1 wC2 wE1 wE2 wF1 wF2 wX1 wX2 wY1 wY2 wZ1 wZ2 wT1 wT2 p11 p12 p21 p22 p31 p32 p41 p42
      obtain ⟨gB, cap, rfl, _, hgl, hpt⟩ := hof.out
      have hpt' := Lib.hid hpt
      have hgl' := Lib.hid hgl
      have heo : Hid (∀ w', gB < w'.heap.size → PtsAt w' gB 0 [lawP A C E F X Y, lawP A C E F Z T] → Calls Try.prog 28 #[.slice (some ⟨gB, 0, none⟩) 2 cap] w' fun en w'' => en = .returned (boxOf [lawP A C E F X Y, lawP A C E F Z T]).p ∧ Below w'.heap.size w' w'') := Lib.hid (fun w' ha hb => eOf_any gB 0 cap [lawP A C E F X Y, lawP A C E F Z T] w' ha (by simp) hb)
      unfold En.p at heo
      clear hof hpt hgl
      go_wp2_with (first | (go_at_call 39; refine (htr.out _).mono ?_; rintro e w' ⟨rfl, hq⟩; obtain ⟨q, rfl⟩ := gr_of_below hq; clear hq) | (go_at_call 28; refine Calls.mono (heo.out _ ?_ ?_) ?_; (exact Nat.lt_of_lt_of_le hgl'.out (gr_below _ _).size); (exact hpt'.out.below (gr_below _ _) hgl'.out); rintro e w' ⟨rfl, hq⟩; obtain ⟨q, rfl⟩ := gr_of_below hq; clear hq) | (go_at_call 26; refine (heq.out _).mono ?_; rintro e w' ⟨rfl, hq⟩; obtain ⟨q, rfl⟩ := gr_of_below hq; clear hq))
      go_ret
      exact ⟨rfl, by have h1 := hBW'.out; have h2 := h1.size; repeat (first | exact h1 | (refine below_gr' ?_ (by first | omega | (simp [go_sem] <;> omega))))⟩
end Go.Proofs.Ytpphfoggjejpiaa
