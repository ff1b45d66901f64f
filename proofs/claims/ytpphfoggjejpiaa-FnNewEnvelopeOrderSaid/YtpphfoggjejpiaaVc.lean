/-
  FnNewEnvelopeOrder: its walk. Conditions: as each theorem states them.
-/
import Derived.Test.YtpphfoggjejpiaaVb
namespace Go.Proofs.Ytpphfoggjejpiaa
open Go.RowKit Fl Go.Sort

def pickP (ps : List (Nat × Nat)) (zs : List Int) : List (Nat × Nat) := zs.flatMap fun (z : Int) => if 0 ≤ z ∧ z < ps.length then [ps[z.toNat]?.getD (0, 0)] else []

theorem pickP_take (ps : List (Nat × Nat)) (zs : List Int) (k : Nat) (h : k < zs.length) :
    pickP ps (zs.take (k + 1)) = pickP ps (zs.take k) ++ (if 0 ≤ zs[k]?.getD 0 ∧ zs[k]?.getD 0 < ps.length then [ps[(zs[k]?.getD 0).toNat]?.getD (0, 0)] else []) := by
  unfold pickP
  rw [List.take_add_one, List.getElem?_eq_getElem h, Option.toList_some, List.flatMap_append]
  simp only [List.flatMap_cons, List.flatMap_nil, List.append_nil, Option.getD_some]

theorem pickP_length (ps : List (Nat × Nat)) (zs : List Int) : (pickP ps zs).length ≤ zs.length := by
  unfold pickP
  induction zs with
  | nil => simp
  | cons z zs ih =>
    simp only [List.flatMap_cons, List.length_append, List.length_cons]
    split <;> simp only [List.length_cons, List.length_nil] <;> omega

theorem rev_take (ps : List (Nat × Nat)) (m k : Nat) (h : m + 1 + k = ps.length) : ps.reverse.take (k + 1) = ps.reverse.take k ++ [ps[m]?.getD (0, 0)] := by
  have hk : k < ps.reverse.length := by simp; omega
  rw [List.take_add_one, List.getElem?_eq_getElem hk, Option.toList_some, List.getElem_reverse]
  have hm : m < ps.length := by omega
  have e : ps.length - 1 - k = m := by omega
  simp only [List.getElem?_eq_getElem hm, Option.getD_some, e]

theorem eList_empty (ao : Option Addr) (c : Nat) (w : World) :
    Calls Try.prog 15 #[.slice ao 0 c] w fun en w' => en = .returned (.bool true) ∧ Below w.heap.size w w' := by
  go_enter Try.func15, Try.ntmps15
  go_wp2
  go_loopw [10] (fun i wr => i = .int .i64 0 ∧ Below w.heap.size w wr) (fun _ _ => 0)
  case atStart => exact ⟨rfl, Below.refl _ _⟩
  case round =>
    obtain ⟨rfl, hbl⟩ := hrel
    go_wp2
    go_ret
    exact ⟨rfl, hbl⟩

theorem expE_ne (e : En) (p : Nat × Nat) : (expE e p).ne = true := by unfold expE; split <;> rfl
theorem foldE_ne : ∀ (ps : List (Nat × Nat)) (e : En), e.ne = true → (ps.foldl expE e).ne = true
  | [], _, h => h
  | p :: ps, e, _ => foldE_ne ps _ (expE_ne e p)
theorem envOf_ne {ps : List (Nat × Nat)} (h : 0 < ps.length) : (envOf ps).ne = true := by
  match ps, h with
  | p :: ps, _ => exact foldE_ne ps _ (expE_ne _ p)
theorem norm_of_ne {e : En} (h : e.ne = true) : e.norm = e := by unfold En.norm; rw [if_pos h]
theorem envOf_norm_ne {ps : List (Nat × Nat)} (h : 0 < ps.length) : (envOf ps).norm.ne = true := by rw [norm_of_ne (envOf_ne h)]; exact envOf_ne h

set_option maxRecDepth 4000 in
theorem order_walk (b off cap : Nat) (ps : List (Nat × Nat)) (zs : List Int) (ao : Option Addr) (c : Nat) (w : World) (hb : b < w.heap.size) (hn : ps.length ≤ 2000) (hz : zs.length ≤ 2000) (h0 : 0 < ps.length)
    (hw : ∀ p ∈ ps, p.1 < 2 ^ 64 ∧ p.2 < 2 ^ 64) (hc : PtsAt w b off ps) (hfin : finL ps = true)
    (hat : ∀ i, i < zs.length → ∃ b off, ao = some ⟨b, off, none⟩ ∧ b < w.heap.size ∧ w.cell? ⟨b, off + i, none⟩ = some (.int .i64 (zs[i]?.getD 0))) :
    Calls Try.prog 7 #[.slice (some ⟨b, off, none⟩) ps.length cap, .slice ao zs.length c] w fun en w' =>
      en = .returned (.bool ((envOf ps).norm.ne && eqE (envOf (ps.reverse ++ pickP ps zs)).norm (envOf ps).norm)) ∧ Below w.heap.size w w' := by
  have hc' := Lib.hid hc
  have hat' := Lib.hid hat
  have hw' := Lib.hid hw
  have hel := Lib.hid (fun (w' : World) hb' hc' => eList_any b off cap ps w' hb' (by omega) hw hc')
  have hne := Lib.hid (fun (w' : World) b off cap ps hb' hc' hl => newEnvelope_any b off cap ps w' hb' hl hc')
  rw [hfin, decide_eq_true hn, Bool.and_self] at hel
  have hn' : (ps.length : Int) ≤ 2000 := by omega
  have hz' : (zs.length : Int) ≤ 2000 := by omega
  have h0' : ((ps.length : Int) == 0) = false := by rw [beq_eq_false_iff_ne]; omega
  have hg1 : ¬ (2147483647 : Int) < (ps.length : Int) := by omega
  have hg2 : ¬ (2147483647 : Int) < (zs.length : Int) := by omega
  have hg3 : decide ((2000 : Int) < (zs.length : Int)) = false := by simp; omega
  clear hc hat hw hfin
  go_enter Try.func7, Try.ntmps7
  go_wp2_with fail
  refine (hel.out _ hb hc'.out).mono ?_
  rintro en w' ⟨rfl, hq⟩
  obtain ⟨q, rfl⟩ := gr_of_below hq
  clear hq
  go_wp2_with fail
  clear h0' hg1 hg2 hg3
  go_loopw [5, 6] (fun v i wr => ∃ m k : Nat, m + k = ps.length ∧ i = .int .i64 ((m : Int) - 1) ∧ OwnP wr w.heap.size v (ps.reverse.take k) ∧ Below w.heap.size w wr) (fun _ i _ => (intOf i + 1).toNat)
  case atStart => exact ⟨ps.length, 0, by omega, by go_num, OwnP.nil _ _, (by repeat (first | exact Below.refl _ _ | (refine below_gr' ?_ (by first | omega | (simp [go_sem] <;> omega))) | (refine Below.alloc ?_ (by first | omega | (simp [go_sem] <;> omega)) _) | refine Below.drew ?_ | (refine Below.setCell ?_ (by first | omega | (simp [go_sem] <;> omega)) _)))⟩
  case round =>
    obtain ⟨m, k, hmk, rfl, hown, hbl⟩ := hrel
    rcases Nat.eq_zero_or_pos m with h | h
    · subst h
      have hk : k = ps.length := by omega
      subst hk
      rw [show ps.reverse.take ps.length = ps.reverse by rw [← List.length_reverse, List.take_length]] at hown
      have hown0 := Lib.hid hown
      have hbl0 := Lib.hid hbl
      clear hown hbl
      go_wp2
      go_loopw [5, 47] (fun v i wr => ∃ k : Nat, k ≤ zs.length ∧ i = .int .i64 k ∧ OwnP wr w.heap.size v (ps.reverse ++ pickP ps (zs.take k)) ∧ Below w.heap.size w wr) (fun _ i _ => zs.length - (intOf i).toNat)
      case atStart => exact ⟨0, Nat.zero_le _, rfl, by simpa [pickP] using hown0.out, hbl0.out⟩
      case round =>
        obtain ⟨k, hk, rfl, hown, hbl⟩ := hrel
        by_cases hlt : k < zs.length
        · obtain ⟨ba, oa, hao, hba, hca⟩ := hat'.out k hlt
          subst hao
          rw [← hbl.cell (p := ⟨ba, oa + k, none⟩) hba] at hca
          have hpk := Lib.hid (pickP_take ps zs k hlt)
          obtain ⟨z, hzv⟩ : ∃ z, z = zs[k]?.getD 0 := ⟨_, rfl⟩
          rw [← hzv] at hca hpk
          have hown' := Lib.hid hown
          have hbl' := Lib.hid hbl
          have hlen := Lib.hid (show (ps.reverse ++ pickP ps (zs.take k)).length ≤ 1000000 by have := pickP_length ps (zs.take k); simp at this ⊢; omega)
          have hsz := Lib.hid hbl.size
          by_cases hz0 : z < 0
          · have hp0 := hpk.out
            rw [if_neg (by omega), List.append_nil] at hp0
            have hp1 := Lib.hid hp0
            have hz1 : decide (0 ≤ z) = false := by simp; omega
            clear hzv hown hbl hpk hp0
            go_wp2
            go_roundw
            case rel => exact ⟨k + 1, by omega, by go_num, by rw [hp1.out]; exact hown'.out, hbl'.out⟩
            case measure => simp [intOf]; omega
          · by_cases hzn : z < ps.length
            · obtain ⟨m, rfl⟩ : ∃ m : Nat, z = m := ⟨z.toNat, by omega⟩
              have hp0 := hpk.out
              rw [if_pos (by omega), Int.toNat_natCast] at hp0
              have hm : m < ps.length := by omega
              have hk1 := (hc'.out m hm).1
              have hk2 := (hc'.out m hm).2
              rw [← hbl.cell (p := ⟨b, off + m * 2, none⟩) hb] at hk1
              rw [← hbl.cell (p := ⟨b, off + m * 2 + 1, none⟩) hb] at hk2
              obtain ⟨x, hx⟩ : ∃ x, x = (ps[m]?.getD (0, 0)).1 := ⟨_, rfl⟩
              obtain ⟨y, hy⟩ : ∃ y, y = (ps[m]?.getD (0, 0)).2 := ⟨_, rfl⟩
              rw [show ps[m]?.getD (0, 0) = (x, y) by rw [hx, hy]] at hp0
              rw [← hx] at hk1
              rw [← hy] at hk2
              have hp1 := Lib.hid hp0
              clear hzv hown hbl hpk hp0 hx hy
              go_wp2_with (at_builtin; refine wpList_append_xy rfl _ _ _ rfl (by kernel_rfl) w.heap.size _ _ rfl (World.ownsRow.alloc hown'.out _) wr.heap.size 0 1 x y rfl (by simp [go_sem]) (by simp [go_sem]) hlen.out (by have := hsz.out; simp; omega) ?_)
              intro v' w1 ho hb1
              have hb2 := Lib.hid (((hbl'.out).alloc hbl'.out.size (.cells #[.float .f64 x, .float .f64 y] 24)).trans hb1)
              first | rw [List.append_assoc, ← hp1.out] at ho | rw [← hp1.out] at ho
              have ho' := Lib.hid ho
              clear ho hb1
              go_wp2
              go_roundw
              case rel => exact ⟨_, _, _, _, _, _, _, _, _, _, _, _, _, _, _, _, _, _, _, _, _, _, ⟨k + 1, by omega, by go_num, ho'.out, hb2.out⟩, rfl⟩
              case measure => simp [intOf]; omega
            · have hp0 := hpk.out
              rw [if_neg (by omega), List.append_nil] at hp0
              have hp1 := Lib.hid hp0
              have hz1 : decide (0 ≤ z) = true := by simp; omega
              have hz2 : decide (z < (ps.length : Int)) = false := by simp; omega
              clear hzv hown hbl hpk hp0
              go_wp2
              go_roundw
              case rel => exact ⟨k + 1, by omega, by go_num, by rw [hp1.out]; exact hown'.out, hbl'.out⟩
              case measure => simp [intOf]; omega
        · have hk2 : k = zs.length := by omega
          subst hk2
          rw [List.take_length] at hown
          obtain ⟨Q, hQ⟩ : ∃ Q, Q = ps.reverse ++ pickP ps zs := ⟨_, rfl⟩
          have hQ0 : 0 < Q.length := by rw [hQ, List.length_append, List.length_reverse]; omega
          have hQ1 : Q.length ≤ 1000000 := by have := pickP_length ps zs; rw [hQ, List.length_append, List.length_reverse]; omega
          have hQ' := Lib.hid hQ
          rw [← hQ] at hown
          obtain ⟨g, cap', rfl, hg1, hg2, hPQ⟩ := OwnP.form hown hQ0
          obtain ⟨e, he⟩ : ∃ e, e = (envOf ps).norm := ⟨_, rfl⟩
          obtain ⟨f, hf⟩ : ∃ f, f = (envOf Q).norm := ⟨_, rfl⟩
          have hne1 := Lib.hid (fun hb' hc'' => hne.out wr b off cap ps hb' hc'' (by omega))
          rw [← he] at hne1
          have hne2 := Lib.hid (fun (W : World) h1 h2 => hne.out W g 0 cap' Q h1 h2 hQ1)
          rw [← hf] at hne2
          have he' := Lib.hid he
          have hf' := Lib.hid hf
          have hene : e.ne = true := by rw [he]; exact envOf_norm_ne h0
          have hbl' := Lib.hid hbl
          have hPQ' := Lib.hid hPQ
          have hPP' := Lib.hid (hc'.out.below hbl hb)
          have hgs := Lib.hid hg2
          clear hQ he hf hown hbl hPQ hg1 hg2 hQ0 hQ1
          go_wp2_with fail
          refine (hne1.out (by have := hbl'.out.size; omega) hPP'.out).mono ?_
          rintro en w' ⟨rfl, hq2⟩
          obtain ⟨q2, rfl⟩ := gr_of_below hq2
          clear hq2
          unfold En.p at hne2 ⊢
          clear hne1
          go_wp2_with fail
          refine gen_world (fun W => Blk W (wr.heap.size + q2.os.size) #[.bool true, .float .f64 e.a, .float .f64 e.b, .float .f64 e.c, .float .f64 e.d] ∧ PtsAt W g 0 Q ∧ g < W.heap.size ∧ Below w.heap.size w W) ⟨?b1, ?b2, ?b3, ?b4⟩ ?_
          case b1 => exact Blk.new' _ _ _ _ (by simp [go_sem])
          case b2 => exact hPQ'.out.below ((gr_below wr q2).trans (Below.alloc (Below.refl _ _) (by simp [go_sem]) _)) hgs.out
          case b3 => have := hgs.out; simp [go_sem]; omega
          case b4 => exact Below.alloc (below_gr' hbl'.out (by have := hbl'.out.size; omega)) (by have := hbl'.out.size; simp [go_sem]; omega) _
          rintro W ⟨hBE, hPW, hgW, hBW⟩
          have hE0 := hBE.cell 0
          have hE1 := hBE.cell 1
          have hE2 := hBE.cell 2
          have hE3 := hBE.cell 3
          have hE4 := hBE.cell 4
          have hlW := hBE.lt
          simp only [List.getElem?_toArray, List.getElem?_cons_zero, List.getElem?_cons_succ] at hE0 hE1 hE2 hE3 hE4
          have hcall := Lib.hid (fun p => hne2.out (gr W p) (Nat.lt_of_lt_of_le hgW (gr_below W p).size) (hPW.below (gr_below W p) hgW))
          have heq := Lib.hid (fun w => eEqual_any f e w)
          unfold En.p at heq
          rw [hene] at heq
          have hBW' := Lib.hid hBW
          clear hBE hPW hBW hPQ' hbl'
          refine wp_region_gr (by kernel_rfl) (by kernel_rfl) ?_
          repeat (first | go_big_quiet_step (first | with_reducible exact Calls.gr_of (hcall.out _) | with_reducible exact Calls.gr_of (heq.out _)) | quiet_step (first | with_reducible exact Calls.gr_of (hcall.out _) | with_reducible exact Calls.gr_of (heq.out _)))
          refine wpQuiet_nil ?_
          intro _ hw'
          obtain ⟨q, hw''⟩ := hw'
          subst hw''
          go_wp2
          go_ret
          exact ⟨by rw [← hQ'.out, ← he'.out, ← hf'.out, hene]; rfl, hBW'.out.trans ((gr_below W q).mono hBW'.out.size)⟩
    · obtain ⟨j, rfl⟩ : ∃ j, m = j + 1 := ⟨m - 1, by omega⟩
      have hj : j < ps.length := by omega
      have hk1 := (hc'.out j hj).1
      have hk2 := (hc'.out j hj).2
      rw [← hbl.cell (p := ⟨b, off + j * 2, none⟩) hb] at hk1
      rw [← hbl.cell (p := ⟨b, off + j * 2 + 1, none⟩) hb] at hk2
      obtain ⟨x, hx⟩ : ∃ x, x = (ps[j]?.getD (0, 0)).1 := ⟨_, rfl⟩
      obtain ⟨y, hy⟩ : ∃ y, y = (ps[j]?.getD (0, 0)).2 := ⟨_, rfl⟩
      have hrt := Lib.hid (rev_take ps j k (by omega))
      rw [show ps[j]?.getD (0, 0) = (x, y) by rw [hx, hy]] at hrt
      rw [← hx] at hk1
      rw [← hy] at hk2
      have hown' := Lib.hid hown
      have hbl' := Lib.hid hbl
      have hlen := Lib.hid (show (ps.reverse.take k).length ≤ 1000000 by simp; omega)
      have hsz := Lib.hid hbl.size
      rw [show ((j + 1 : Nat) : Int) - 1 = (j : Int) by omega]
      clear hx hy hown hbl
      go_wp2_with (at_builtin; refine wpList_append_xy rfl _ _ _ rfl (by kernel_rfl) w.heap.size _ _ rfl (World.ownsRow.alloc hown'.out _) wr.heap.size 0 1 x y rfl (by simp [go_sem]) (by simp [go_sem]) hlen.out (by have := hsz.out; simp; omega) ?_)
      intro v' w1 ho hb1
      have hb2 := Lib.hid (((hbl'.out).alloc hbl'.out.size (.cells #[.float .f64 x, .float .f64 y] 24)).trans hb1)
      rw [← hrt.out] at ho
      have ho' := Lib.hid ho
      clear ho hb1
      go_wp2
      go_roundw
      case rel => exact ⟨j, k + 1, by omega, by go_num, ho'.out, hb2.out⟩
      case measure => simp [intOf]
end Go.Proofs.Ytpphfoggjejpiaa
