/-
  The law's reading of a line string, continued; the same numbers. Conditions: as each theorem states them.
-/
import Derived.Test.YtpphfoggjejpiaaMh
namespace Go.Proofs.Ytpphfoggjejpiaa
open Go.RowKit Fl Go.Sort

set_option maxRecDepth 8000 in
set_option maxHeartbeats 2000000 in
theorem gLine_yes {dim e : Int} (hd : D4 e) (he : bits .and .i64 dim 3 = e) {ao : Option Addr} {nc : Nat} {nums : List Nat} {kids : List G} {ko : Option Addr} {kl kc n nn : Nat} (hn : n = nums.length / dimN e) (hnn : nn = n * dimN e) (hcap : nums.length ≤ nc ∧ (ao = none → nc = 0)) (w : World) (hfs : FsSl w ao nums)
    (h : GC w (gCells 2 dim ao nums.length nc ko kl kc) (.mk 2 dim nums kids)) (hk : small (.mk 2 dim nums kids) = true) :
    Calls Try.prog 41 #[.agg (gCells 2 dim ao nums.length nc ko kl kc).toArray] w fun en w' => (∃ v, en = .returned (.tuple #[v, .bool true]) ∧ QsSl w' v (plcs e (nums.take nn) (dimN e) n)) ∧ Below w.heap.size w w' := by
  have hl := small_nums hk
  have hs := Lib.hid (fun b off cap w' (hb : Below w.heap.size w w') hlt e0 e1 e2 e3 => gSmall_any b off cap w' (h.keep hb) hlt e0 e1 e2 e3)
  rw [hk] at hs
  have hle : nn ≤ nums.length := by rw [hnn, hn]; exact Nat.div_mul_le_self _ _
  have hnew := Lib.hid (fun w' (hb : Below w.heap.size w w') => newLeaf_any hd he ao nc nums ko kl kc n nn hn hnn (by omega) hcap w' (hfs.below hb))
  have hpl := Lib.hid (fun ao2 cap2 w' hf => places_any hd ao2 cap2 n (nums.take nn) (by rw [List.length_take, Nat.min_eq_left hle, hnn]) (by rw [List.length_take]; omega) w' hf)
  have hlen : (nums.take nn).length = nn := by rw [List.length_take, Nat.min_eq_left hle]
  rw [hlen] at hpl
  have hlen' := Lib.hid hlen
  clear h hk hn hnn hcap hfs hd he hl hle hlen
  unfold gCells
  go_enter Try.func41, Try.ntmps41
  go_wp2_with (first | (go_at_call 86; refine (hs.out _ _ _ _ (by repeat (first | exact Below.refl _ _ | (refine below_gr' ?_ (by first | omega | (simp [go_sem] <;> omega))) | (refine Below.alloc ?_ (by first | omega | (simp [go_sem] <;> omega)) _) | refine Below.drew ?_ | (refine Below.setCell ?_ (by first | omega | (simp [go_sem] <;> omega)) _))) (by simp) (by go_simp) (by go_simp) (by go_simp) (by go_simp)).mono ?_; rintro e w' ⟨rfl, hq⟩; obtain ⟨q, rfl⟩ := gr_of_below hq; clear hq) | (go_at_call 55; refine (hnew.out _ (by repeat (first | exact Below.refl _ _ | (refine below_gr' ?_ (by first | omega | (simp [go_sem] <;> omega))) | (refine Below.alloc ?_ (by first | omega | (simp [go_sem] <;> omega)) _) | refine Below.drew ?_ | (refine Below.setCell ?_ (by first | omega | (simp [go_sem] <;> omega)) _)))).mono ?_; rintro e w' ⟨⟨v, rfl, ao2, cap2, hv2, hf2, _⟩, hq⟩; rw [hlen'.out] at hv2; subst hv2; obtain ⟨q2, rfl⟩ := gr_of_below hq; clear hq; have hf2' := Lib.hid hf2; clear hf2) | (go_at_call 87; refine Calls.mono (hpl.out ao2 cap2 _ (hf2'.out.below ?_)) ?_; rotate_left 1; rintro e w' ⟨⟨v, rfl, hv⟩, hq⟩; have hv' := Lib.hid hv.sl; obtain ⟨q3, rfl⟩ := gr_of_below hq; clear hq hv; rotate_right 1))
  case refine_1 =>
    simp only [gr_gr]
    exact (by repeat (first | exact Below.refl _ _ | (refine below_gr' ?_ (by first | omega | (simp [go_sem] <;> omega))) | (refine Below.alloc ?_ (by first | omega | (simp [go_sem] <;> omega)) _) | refine Below.drew ?_ | (refine Below.setCell ?_ (by first | omega | (simp [go_sem] <;> omega)) _)))
  refine bodyPost_ret (v := .tuple #[v, .bool true]) ?_ rfl ⟨⟨v, rfl, by first | exact hv'.out | simpa only [gr_gr] using hv'.out⟩, (by repeat (first | exact Below.refl _ _ | (refine below_gr' ?_ (by first | omega | (simp [go_sem] <;> omega))) | (refine Below.alloc ?_ (by first | omega | (simp [go_sem] <;> omega)) _) | refine Below.drew ?_ | (refine Below.setCell ?_ (by first | omega | (simp [go_sem] <;> omega)) _)))⟩
  simp [results, Try.results41, go_sem]

set_option maxHeartbeats 1000000 in
theorem sameNums_eq (b1 o1 c1 b2 o2 c2 : Nat) (fs : List Nat) (hl : (fs.length : Int) ≤ 1000000) (w : World) (hb1 : b1 < w.heap.size) (hb2 : b2 < w.heap.size) (h1 : FsAt w b1 o1 fs) (h2 : FsAt w b2 o2 fs) :
    Calls Try.prog 95 #[.slice (some ⟨b1, o1, none⟩) fs.length c1, .slice (some ⟨b2, o2, none⟩) fs.length c2] w fun en w' => en = .returned (.bool true) ∧ Below w.heap.size w w' := by
  have h1' := Lib.hid h1
  have h2' := Lib.hid h2
  clear h1 h2
  go_enter Try.func95, Try.ntmps95
  go_wp2
  go_loopw [14] (fun i wr => ∃ k : Nat, k ≤ fs.length ∧ i = .int .i64 k ∧ Below w.heap.size w wr) (fun i _ => fs.length - (intOf i).toNat)
  case atStart => exact ⟨0, Nat.zero_le _, rfl, Below.refl _ _⟩
  case round =>
    obtain ⟨k, hk, rfl, hbl⟩ := hrel
    by_cases hlt : k < fs.length
    · have e1 : wr.cell? ⟨b1, o1 + k, none⟩ = some (.float .f64 (fs[k]?.getD 0)) := (h1'.out.below hbl hb1) k hlt
      have e2 : wr.cell? ⟨b2, o2 + k, none⟩ = some (.float .f64 (fs[k]?.getD 0)) := (h2'.out.below hbl hb2) k hlt
      have hw1 : b1 < wr.heap.size := Nat.lt_of_lt_of_le hb1 hbl.size
      have hw2 : b2 < wr.heap.size := Nat.lt_of_lt_of_le hb2 hbl.size
      generalize fs[k]?.getD 0 = x at *
      have hbits := bits_run x
      have hbl' := Lib.hid hbl
      clear hbl
      go_wp2_with fail
      refine wp_region_gr (by kernel_rfl) (by kernel_rfl) ?_
      repeat (first | go_big_quiet_step (fail) | quiet_step (fail))
      refine wpQuiet_nil ?_
      intro _ hw'
      obtain ⟨q, hw''⟩ := hw'
      subst hw''
      go_wp2
      go_roundw
      case rel => exact ⟨k + 1, by omega, by go_num, below_gr' hbl'.out hbl'.out.size⟩
      case measure => simp [intOf]; omega
    · have hkn : k = fs.length := by omega
      subst hkn
      go_wp2
      go_ret
      exact ⟨rfl, hbl⟩

theorem fsAt_blk {w : World} {B : Nat} {fs : List Nat} (h : Blk w B (flC fs).toArray) : FsAt w B 0 fs := by
  obtain ⟨t, h⟩ := h
  exact fsAt_of_blk h

theorem gCoords_eq (x y z m : Nat) (d : Int) (w : World) :
    Calls Try.prog 44 #[.agg #[.float .f64 x, .float .f64 y, .float .f64 z, .float .f64 m, .int .i64 d], .agg #[.float .f64 x, .float .f64 y, .float .f64 z, .float .f64 m], .int .i64 d] w fun en w' => en = .returned (.bool true) ∧ Below w.heap.size w w' := by
  have hs := Lib.hid (fun b1 o1 c1 b2 o2 c2 w hb1 hb2 h1 h2 => sameNums_eq b1 o1 c1 b2 o2 c2 [x, y, z, m] (by simp) w hb1 hb2 h1 h2)
  go_enter Try.func44, Try.ntmps44
  go_wp2_with (go_at_call 95; refine Calls.mono (hs.out _ _ _ _ _ _ _ (by simp) (by simp) ?_ ?_) ?_; rotate_left 2; rintro e w' ⟨rfl, hq⟩; obtain ⟨q, rfl⟩ := gr_of_below hq; clear hq; rotate_right 2)
  case refine_1 => exact fsAt_blk ((Blk.new' _ _ _ _ (by simp)).alloc _)
  case refine_2 => exact fsAt_blk (Blk.new' _ _ _ _ (by simp))
  go_ret
  exact ⟨rfl, (by repeat (first | exact Below.refl _ _ | (refine below_gr' ?_ (by first | omega | (simp [go_sem] <;> omega))) | (refine Below.alloc ?_ (by first | omega | (simp [go_sem] <;> omega)) _) | refine Below.drew ?_ | (refine Below.setCell ?_ (by first | omega | (simp [go_sem] <;> omega)) _)))⟩
end Go.Proofs.Ytpphfoggjejpiaa
