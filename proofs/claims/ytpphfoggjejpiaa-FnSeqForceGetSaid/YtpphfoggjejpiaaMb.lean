/-
  The weight of a plain geometry, and the laws' test that it is small. Conditions: as each theorem states them.
-/
import Derived.Test.YtpphfoggjejpiaaMa
namespace Go.Proofs.Ytpphfoggjejpiaa
open Go.RowKit Fl Go.Sort

mutual
/-- What is left of a bound behind a geometry; -1 if it does not reach. -/
def wt : G → Int → Int
  | .mk _ _ nums kids, left => if left < 1 ∨ left < nums.length ∨ left < kids.length then -1 else wtL kids (left - 1 - nums.length)
def wtL : List G → Int → Int
  | [], left => left
  | k :: ks, left => if 0 ≤ left then wtL ks (wt k left) else left
end

mutual
theorem wt_bounds : ∀ (g : G) (left : Int), -1 ≤ left → -1 ≤ wt g left ∧ wt g left ≤ left
  | .mk _ _ nums kids, left, h => by
    unfold wt
    split
    · omega
    · have := wtL_bounds kids (left - 1 - nums.length) (by omega)
      omega
theorem wtL_bounds : ∀ (l : List G) (left : Int), -1 ≤ left → -1 ≤ wtL l left ∧ wtL l left ≤ left
  | [], left, h => by unfold wtL; omega
  | k :: ks, left, h => by
    unfold wtL
    split
    · have h1 := wt_bounds k left h
      have h2 := wtL_bounds ks (wt k left) h1.1
      omega
    · omega
end

theorem wtL_neg (l : List G) (left : Int) (h : left < 0) : wtL l left = left := by
  cases l with
  | nil => rfl
  | cons k ks => unfold wtL; rw [if_neg (by omega)]

theorem wtL_drop (kids : List G) (k : Nat) (h : k < kids.length) (left : Int) (h0 : 0 ≤ left) : wtL (kids.drop k) left = wtL (kids.drop (k + 1)) (wt (kids[k]?.getD gZero) left) := by
  rw [List.drop_eq_getElem_cons h]
  conv => lhs; unfold wtL
  rw [if_pos h0, List.getElem?_eq_getElem h]
  rfl

set_option maxHeartbeats 2000000 in
theorem gWeight_any {w : World} {cs : List Value} {g : G} (h : GC w cs g) : ∀ (w' : World) (left : Int), Below w.heap.size w w' → -1 ≤ left ∧ left ≤ 1000000 →
    Calls Try.prog 130 #[.agg cs.toArray, .int .i64 left] w' fun e w'' => e = .returned (.int .i64 (wt g left)) ∧ Below w'.heap.size w' w'' := by
  induction h with
  | mk kind dim nums kids ao nc ko kc C hk hd hf hw _ hc hg ih =>
    intro w' left hb ⟨hl1, hl2⟩
    have ih' := Lib.hid ih
    have hg' := Lib.hid hg
    have hb0 := Lib.hid hb
    have hc' := Lib.hid hc
    clear ih hg hf hw hc hb
    unfold gCells
    by_cases h1 : left < 1
    · have t1 : decide (left < 1) = true := decide_eq_true h1
      have hr : Hid (wt (.mk kind dim nums kids) left = -1) := Lib.hid (by unfold wt; rw [if_pos (.inl h1)])
      go_enter Try.func130, Try.ntmps130
      go_wp2
      go_ret
      exact ⟨by rw [hr.out]; rfl, (by repeat (first | exact Below.refl _ _ | (refine below_gr' ?_ (by first | omega | (simp [go_sem] <;> omega))) | (refine Below.alloc ?_ (by first | omega | (simp [go_sem] <;> omega)) _) | refine Below.drew ?_ | (refine Below.setCell ?_ (by first | omega | (simp [go_sem] <;> omega)) _)))⟩
    have t1 : decide (left < 1) = false := decide_eq_false h1
    by_cases h2 : left < nums.length
    · have t2 : decide (left < (nums.length : Int)) = true := decide_eq_true h2
      have hr : Hid (wt (.mk kind dim nums kids) left = -1) := Lib.hid (by unfold wt; rw [if_pos (.inr (.inl h2))])
      go_enter Try.func130, Try.ntmps130
      go_wp2
      go_ret
      exact ⟨by rw [hr.out]; rfl, (by repeat (first | exact Below.refl _ _ | (refine below_gr' ?_ (by first | omega | (simp [go_sem] <;> omega))) | (refine Below.alloc ?_ (by first | omega | (simp [go_sem] <;> omega)) _) | refine Below.drew ?_ | (refine Below.setCell ?_ (by first | omega | (simp [go_sem] <;> omega)) _)))⟩
    have t2 : decide (left < (nums.length : Int)) = false := decide_eq_false h2
    by_cases h3 : left < kids.length
    · have t3 : decide (left < (kids.length : Int)) = true := decide_eq_true h3
      have hr : Hid (wt (.mk kind dim nums kids) left = -1) := Lib.hid (by unfold wt; rw [if_pos (.inr (.inr h3))])
      go_enter Try.func130, Try.ntmps130
      go_wp2
      go_ret
      exact ⟨by rw [hr.out]; rfl, (by repeat (first | exact Below.refl _ _ | (refine below_gr' ?_ (by first | omega | (simp [go_sem] <;> omega))) | (refine Below.alloc ?_ (by first | omega | (simp [go_sem] <;> omega)) _) | refine Below.drew ?_ | (refine Below.setCell ?_ (by first | omega | (simp [go_sem] <;> omega)) _)))⟩
    have t3 : decide (left < (kids.length : Int)) = false := decide_eq_false h3
    have hr : Hid (wt (.mk kind dim nums kids) left = wtL (kids.drop 0) (left - 1 - nums.length)) := Lib.hid (by rw [List.drop_zero]; unfold wt; rw [if_neg (by omega)])
    go_enter Try.func130, Try.ntmps130
    go_wp2
    obtain ⟨R, hR⟩ : ∃ R, wt (.mk kind dim nums kids) left = R := ⟨_, rfl⟩
    rw [hR] at hr
    have hR' := Lib.hid hR
    clear hR
    go_loopw [1, 5] (fun v i wr => ∃ (k : Nat) (L : Int), k ≤ kids.length ∧ i = .int .i64 k ∧ v = .int .i64 L ∧ R = wtL (kids.drop k) L ∧ -1 ≤ L ∧ L ≤ 1000000 ∧ Below w'.heap.size w' wr ∧ Blk wr w'.heap.size #[.int .i64 kind, .int .i64 dim, .slice ao nums.length nc, .slice ko kids.length kc]) (fun _ i _ => kids.length - (intOf i).toNat)
    case atStart => exact ⟨0, _, Nat.zero_le _, rfl, rfl, hr.out, by omega, by omega, (by repeat (first | exact Below.refl _ _ | (refine below_gr' ?_ (by first | omega | (simp [go_sem] <;> omega))) | (refine Below.alloc ?_ (by first | omega | (simp [go_sem] <;> omega)) _) | refine Below.drew ?_ | (refine Below.setCell ?_ (by first | omega | (simp [go_sem] <;> omega)) _))), Blk.new _ _ _⟩
    case round =>
      obtain ⟨k, L, hkl, rfl, rfl, hRL, hL1, hL2, hbl, hB⟩ := hrel
      have hcB := hB.cell
      have hltB := hB.lt
      have hB' := Lib.hid hB
      have hbl' := Lib.hid hbl
      have hRL' := Lib.hid hRL
      clear hB hRL hr t1 t2 t3
      by_cases hlt : k < kids.length
      · by_cases hL0 : 0 ≤ L
        · have tL : decide (0 ≤ L) = true := decide_eq_true hL0
          obtain ⟨b, off, hko, hbw, hcell⟩ := hc'.out (by omega)
          have hbw2 := Lib.hid (hb0.out.trans (hbl.mono hb0.out.size))
          obtain ⟨c0, c1, c2, c3, hC⟩ := (hg'.out k hlt).four
          have e0 : wr.cell? ⟨b, off + k * 4, none⟩ = some c0 := by rw [hbw2.out.cell (p := ⟨b, off + k * 4, none⟩) hbw]; have h := hcell k hlt 0 (by omega); rw [hC] at h; exact h
          have e1 : wr.cell? ⟨b, off + k * 4 + 1, none⟩ = some c1 := by rw [hbw2.out.cell (p := ⟨b, off + k * 4 + 1, none⟩) hbw]; have h := hcell k hlt 1 (by omega); rw [hC] at h; exact h
          have e2 : wr.cell? ⟨b, off + k * 4 + 2, none⟩ = some c2 := by rw [hbw2.out.cell (p := ⟨b, off + k * 4 + 2, none⟩) hbw]; have h := hcell k hlt 2 (by omega); rw [hC] at h; exact h
          have e3 : wr.cell? ⟨b, off + k * 4 + 3, none⟩ = some c3 := by rw [hbw2.out.cell (p := ⟨b, off + k * 4 + 3, none⟩) hbw]; have h := hcell k hlt 3 (by omega); rw [hC] at h; exact h
          have hcall := Lib.hid (ih'.out k hlt wr L hbw2.out ⟨hL1, hL2⟩)
          rw [hC] at hcall
          have hstep : Hid (R = wtL (kids.drop (k + 1)) (wt (kids[k]?.getD gZero) L)) := Lib.hid (by rw [hRL'.out]; exact wtL_drop kids k hlt L hL0)
          have hbd := wt_bounds (kids[k]?.getD gZero) L hL1
          generalize wt (kids[k]?.getD gZero) L = L' at *
          subst hko
          clear hcell hC hbl
          go_wp2_with (go_at_call 130; refine (hcall.out).mono ?_; rintro e w' ⟨rfl, hq⟩; obtain ⟨q, rfl⟩ := gr_of_below hq; clear hq)
          go_roundw
          case rel => exact ⟨k + 1, L', by omega, by go_num, rfl, hstep.out, by omega, by omega, below_gr' hbl'.out hbl'.out.size, hB'.out.gr _⟩
          case measure => simp [intOf]; omega
        · have tL : decide (0 ≤ L) = false := decide_eq_false hL0
          have hres : Hid (R = L) := Lib.hid (by rw [hRL'.out]; exact wtL_neg _ _ (by omega))
          clear hbl
          go_wp2
          go_ret
          exact ⟨by rw [hR'.out, hres.out]; rfl, hbl'.out⟩
      · have hkn : k = kids.length := by omega
        subst hkn
        have hres : Hid (R = L) := Lib.hid (by rw [hRL'.out, List.drop_length]; rfl)
        clear hbl
        go_wp2
        go_ret
        exact ⟨by rw [hR'.out, hres.out]; rfl, hbl'.out⟩

/-- The law's test of smallness, of one geometry. -/
def small (g : G) : Bool := decide (0 ≤ wt g 2000)

set_option maxHeartbeats 1000000 in
theorem gSmall_any {g : G} {c0 c1 c2 c3 : Value} (b off cap : Nat) (w : World) (h : GC w [c0, c1, c2, c3] g) (hb : b < w.heap.size) (e0 : w.cell? ⟨b, off, none⟩ = some c0) (e1 : w.cell? ⟨b, off + 1, none⟩ = some c1) (e2 : w.cell? ⟨b, off + 2, none⟩ = some c2) (e3 : w.cell? ⟨b, off + 3, none⟩ = some c3) :
    Calls Try.prog 86 #[.slice (some ⟨b, off, none⟩) 1 cap] w fun e w' => e = .returned (.bool (small g)) ∧ Below w.heap.size w w' := by
  have hcall := Lib.hid (fun w' hb' => gWeight_any h w' 2000 hb' ⟨by omega, by omega⟩)
  have hbd := wt_bounds g 2000 (by omega)
  unfold small
  generalize wt g 2000 = L at *
  clear h
  go_enter Try.func86, Try.ntmps86
  go_wp2
  go_loopw [3, 4] (fun v i wr => ((i = .int .i64 0 ∧ v = .int .i64 2000) ∨ (i = .int .i64 1 ∧ v = .int .i64 L)) ∧ Below w.heap.size w wr) (fun _ i _ => 1 - (intOf i).toNat)
  case atStart => exact ⟨.inl ⟨rfl, rfl⟩, Below.refl _ _⟩
  case round =>
    obtain ⟨hi, hbl⟩ := hrel
    have hbl' := Lib.hid hbl
    rcases hi with ⟨rfl, rfl⟩ | ⟨rfl, rfl⟩
    · rw [← hbl.cell (p := ⟨b, off, none⟩) hb] at e0
      rw [← hbl.cell (p := ⟨b, off + 1, none⟩) hb] at e1
      rw [← hbl.cell (p := ⟨b, off + 2, none⟩) hb] at e2
      rw [← hbl.cell (p := ⟨b, off + 3, none⟩) hb] at e3
      clear hbl
      go_wp2_with (go_at_call 130; refine (hcall.out _ hbl'.out).mono ?_; rintro e w' ⟨rfl, hq⟩; obtain ⟨q, rfl⟩ := gr_of_below hq; clear hq)
      go_roundw
      case rel => exact ⟨.inr ⟨rfl, rfl⟩, below_gr' hbl'.out hbl'.out.size⟩
      case measure => simp [intOf]
    · clear hbl
      go_wp2
      go_ret
      exact ⟨rfl, hbl'.out⟩
end Go.Proofs.Ytpphfoggjejpiaa
