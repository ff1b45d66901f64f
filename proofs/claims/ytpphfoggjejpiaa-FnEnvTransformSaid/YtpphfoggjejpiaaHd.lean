/-
  FnEnvTransform: its tests, and its walk. Conditions: as each theorem states them.
-/
import Derived.Test.YtpphfoggjejpiaaHc
import Derived.Test.YtpphfoggjejpiaaBw
import Derived.Test.YtpphfoggjejpiaaVb
namespace Go.Proofs.Ytpphfoggjejpiaa
open Go.RowKit Fl Go.Sort

def whE (e : En) : Bool := !e.ne || (wholeB e.a && wholeB e.b && wholeB e.c && wholeB e.d)

set_option maxHeartbeats 1000000 in
theorem eRound_any (b off cap : Nat) (e : En) (w : World) (hlt : b < w.heap.size) (hE : EnAt w b off e) :
    Calls Try.prog 36 #[.slice (some ⟨b, off, none⟩) 1 cap] w fun en w' => en = .returned (.bool (whE e)) ∧ Below w.heap.size w w' := by
  obtain ⟨a, b', c, d, ne⟩ := e
  obtain ⟨h0, h1, h2, h3, h4⟩ := hE
  dsimp only at *
  have hf := Lib.hid (fun w => eWhole_any a b' c d w)
  unfold boxV at hf
  obtain ⟨F, hF⟩ : ∃ F, F = (wholeB a && wholeB b' && wholeB c && wholeB d) := ⟨_, rfl⟩
  rw [← hF] at hf
  unfold whE
  dsimp only
  rw [← hF]
  clear hF
  go_enter Try.func36, Try.ntmps36
  go_wp2
  go_loopw [7] (fun i wr => ∃ k : Nat, k ≤ 1 ∧ i = .int .i64 k ∧ Below w.heap.size w wr ∧ Hid (k = 1 → (!ne || F) = true)) (fun i _ => 1 - (intOf i).toNat)
  case atStart => exact ⟨0, by omega, rfl, Below.refl _ _, Lib.hid (by omega)⟩
  case round =>
    obtain ⟨k, hk, rfl, hbl, hr⟩ := hrel
    by_cases hk0 : k = 0
    · subst hk0
      rw [← hbl.cell (p := ⟨b, off, none⟩) hlt] at h0
      rw [← hbl.cell (p := ⟨b, off + 1, none⟩) hlt] at h1
      rw [← hbl.cell (p := ⟨b, off + 2, none⟩) hlt] at h2
      rw [← hbl.cell (p := ⟨b, off + 3, none⟩) hlt] at h3
      rw [← hbl.cell (p := ⟨b, off + 4, none⟩) hlt] at h4
      have hbl' := Lib.hid hbl
      clear hbl hr
      cases ne <;> cases F
      · go_wp2_with (go_at_call 66; refine (hf.out _).mono ?_; rintro e w' ⟨rfl, hb⟩; obtain ⟨q, rfl⟩ := gr_of_below hb; clear hb)
        go_roundw
        case rel => exact ⟨1, by omega, rfl, (hbl'.out).alloc hbl'.out.size _, Lib.hid (fun _ => rfl)⟩
        case measure => simp [intOf]
      · go_wp2_with (go_at_call 66; refine (hf.out _).mono ?_; rintro e w' ⟨rfl, hb⟩; obtain ⟨q, rfl⟩ := gr_of_below hb; clear hb)
        go_roundw
        case rel => exact ⟨1, by omega, rfl, (hbl'.out).alloc hbl'.out.size _, Lib.hid (fun _ => rfl)⟩
        case measure => simp [intOf]
      · go_wp2_with (go_at_call 66; refine (hf.out _).mono ?_; rintro e w' ⟨rfl, hb⟩; obtain ⟨q, rfl⟩ := gr_of_below hb; clear hb)
        go_ret
        exact ⟨rfl, below_gr' ((hbl'.out).alloc hbl'.out.size _) (by have := hbl'.out.size; simp; omega)⟩
      · go_wp2_with (go_at_call 66; refine (hf.out _).mono ?_; rintro e w' ⟨rfl, hb⟩; obtain ⟨q, rfl⟩ := gr_of_below hb; clear hb)
        go_roundw
        case rel => exact ⟨1, by omega, rfl, below_gr' ((hbl'.out).alloc hbl'.out.size _) (by have := hbl'.out.size; simp; omega), Lib.hid (fun _ => rfl)⟩
        case measure => simp [intOf]
    · have hk1 : k = 1 := by omega
      subst hk1
      go_wp2
      go_ret
      exact ⟨by rw [hr.out trivial]; rfl, hbl⟩

/-- The law's own reckoning of a place. -/
def lawP (A C E F X Y : Int) : Nat × Nat := (floatOfInt .f64 (A * X + C), floatOfInt .f64 (E * Y + F))

theorem eOf_nil (ao : Option Addr) (c : Nat) (w : World) :
    Calls Try.prog 28 #[.slice ao 0 c] w fun en w' => en = .returned (⟨0, 0, 0, 0, false⟩ : En).p ∧ Below w.heap.size w w' := by
  go_enter Try.func28, Try.ntmps28
  go_wp2
  go_loopw [8] (fun i wr => i = .int .i64 0 ∧ Below w.heap.size w wr ∧ Blk wr w.heap.size #[.bool false, .float .f64 0, .float .f64 0, .float .f64 0, .float .f64 0] ∧ Blk wr (w.heap.size + 1) (⟨0, 0, 0, 0, false⟩ : En).pcells) (fun _ _ => 0)
  case atStart => exact ⟨rfl, (by repeat (first | exact Below.refl _ _ | (refine below_gr' ?_ (by first | omega | (simp [go_sem] <;> omega))) | (refine Below.alloc ?_ (by first | omega | (simp [go_sem] <;> omega)) _) | refine Below.drew ?_ | (refine Below.setCell ?_ (by first | omega | (simp [go_sem] <;> omega)) _))), (Blk.new _ _ _).alloc _, Blk.new' _ _ _ _ (by simp)⟩
  case round =>
    obtain ⟨rfl, hbl, hR, hB⟩ := hrel
    have hbl' := Lib.hid hbl
    have hR' := Lib.hid hR
    have cB := hB.cell
    have hB' := Lib.hid hB
    clear hB hR hbl
    unfold En.pcells at cB
    go_wp2_with (refine wpList_store_blk rfl 41 _ _ rfl w.heap.size _ (⟨0, 0, 0, 0, false⟩ : En).pcells hR'.out rfl rfl penv_info rfl (En.pone _) ?_; intro w2 hb2 ho2; have hb2' := Lib.hid hb2; have ho2' := Lib.hid ho2; clear hb2 ho2)
    have hr := hb2'.out.cell
    unfold En.pcells at hr
    refine bodyPost_ret (v := (⟨0, 0, 0, 0, false⟩ : En).p) (by unfold En.p; simp [results, Try.results28, go_sem, hr]) rfl ⟨rfl, hbl'.out.trans (ho2'.out.below (Nat.le_refl _))⟩
end Go.Proofs.Ytpphfoggjejpiaa
