/-
  The thin package's SeqForce. Conditions: as each theorem states them.
-/
import Derived.Test.YtpphfoggjejpiaaMk
namespace Go.Proofs.Ytpphfoggjejpiaa
open Go.RowKit Fl Go.Sort

theorem FsAt.of_sameO {w w' : World} {B off : Nat} {fs : List Nat} (h : FsAt w B off fs) (hs : w'.heap[B]? = w.heap[B]?) : FsAt w' B off fs := by
  intro i hi
  have := h i hi
  unfold World.cell? at *
  dsimp only at *
  rw [hs]
  exact this

theorem plainSeq_any {d : Int} (hd : D4 d) (ao : Option Addr) (cap n L : Nat) (F : List Nat) (hn : n * dimN d = L) (hF : F.length = L) (hl : (L : Int) ≤ 10000) (w : World) (hc : Fs0 w ao F) :
    Calls Try.prog 92 #[.agg #[.int .u8 d, .slice ao L cap]] w fun en w' => (∃ v, en = .returned (.agg #[.int .i64 2, .int .i64 d, v, .slice none 0 0]) ∧ SlK w.heap.size F v w') ∧ Below w.heap.size w w' := by
  rcases hd with rfl | rfl | rfl | rfl
  · exact plain_0 ao cap n L F hn hF hl w hc
  · exact plain_1 ao cap n L F hn hF hl w hc
  · exact plain_2 ao cap n L F hn hF hl w hc
  · exact plain_3 ao cap n L F hn hF hl w hc

theorem coordinates_any (d : Int) (b n cap : Nat) (w : World) :
    Calls Try.prog 90 #[seqV d b n cap] w fun en w' => en = .returned (seqV d b n cap) ∧ Below w.heap.size w w' := by
  unfold seqV
  go_enter Try.func90, Try.ntmps90
  go_wp2
  refine bodyPost_ret (v := .agg #[.int .u8 d, .slice (some ⟨b, 0, none⟩) n cap]) (by simp [results, Try.results90, go_sem]) rfl ⟨rfl, (by repeat (first | exact Below.refl _ _ | (refine below_gr' ?_ (by first | omega | (simp [go_sem] <;> omega))) | (refine Below.alloc ?_ (by first | omega | (simp [go_sem] <;> omega)) _) | refine Below.drew ?_ | (refine Below.setCell ?_ (by first | omega | (simp [go_sem] <;> omega)) _)))⟩

set_option maxHeartbeats 1000000 in
theorem seqForce_any {dim e dd : Int} (hd : D4 e) (he : bits .and .i64 dim 3 = e) (hdd : D4 dd) (hdd3 : bits .and .i64 dd 3 = dd) (ao : Option Addr) (nc : Nat) (nums : List Nat) (ko : Option Addr) (kl kc n nn : Nat) (hn : n = nums.length / dimN e) (hnn : nn = n * dimN e) (hl : nums.length ≤ 2000) (w : World) (hc : FsSl w ao nums) :
    Calls Try.prog 43 #[lineV dim ao nums.length nc ko kl kc, .int .i64 dd] w fun en w' => (∃ v, en = .returned (.agg #[.int .i64 2, .int .i64 dd, v, .slice none 0 0]) ∧ SlF (frcL e dd (nums.take nn) (dimN e) n) v w') ∧ Below w.heap.size w w' := by
  have hle : nn ≤ nums.length := by rw [hnn, hn]; exact Nat.div_mul_le_self _ _
  have h2 : 2 ≤ dimN e := by rcases dimN_cases e with h | h | h <;> omega
  have hn1 : n ≤ 1000 := by rw [hn]; exact Nat.le_trans (Nat.div_le_div_left h2 (by omega)) (by omega)
  have hD : n * dimN dd ≤ 4000 := by rcases dimN_cases dd with h | h | h <;> (rw [h]; omega)
  have hnn2 : nn = nums.length - nums.length % dimN e := by
    have := Nat.div_add_mod nums.length (dimN e)
    rw [hnn, hn, Nat.mul_comm]; omega
  have htl : (nums.take nn).length = nn := by rw [List.length_take, Nat.min_eq_left hle]
  have h1 := Lib.hid (fun w' (hb : Below w.heap.size w w') => line_gen hd he ao nc nums ko kl kc nn hnn2 (by omega) w' (hc.below hb))
  have h2' := Lib.hid (fun B w' => coordinates_any e B nn nn w')
  have h3 := Lib.hid (fun w' => dimOf_gen hdd hdd3 w')
  have h4 := Lib.hid (fun B w' hb hf => force_any hd hdd B nn n (nums.take nn) (by rw [htl, hnn]) (by rw [htl]; omega) w' hb hf)
  rw [htl] at h4
  have h5 := Lib.hid (fun ao2 c2 w' hf => plainSeq_any hdd ao2 c2 n (n * dimN dd) (frcL e dd (nums.take nn) (dimN e) n) rfl (frcL_length hdd _ _ _ _) (by omega) w' hf)
  generalize n * dimN dd = L at *
  generalize frcL e dd (nums.take nn) (dimN e) n = F at *
  generalize nums.take nn = T at *
  clear hc hl hle hn1 hnn2 htl h2 hn hnn hD hd he hdd hdd3
  unfold lineV seqV at *
  go_enter Try.func43, Try.ntmps43
  go_wp2_with (first | (go_at_call 89; refine (h1.out _ (by repeat (first | exact Below.refl _ _ | (refine below_gr' ?_ (by first | omega | (simp [go_sem] <;> omega))) | (refine Below.alloc ?_ (by first | omega | (simp [go_sem] <;> omega)) _) | refine Below.drew ?_ | (refine Below.setCell ?_ (by first | omega | (simp [go_sem] <;> omega)) _)))).mono ?_; rintro e w' ⟨⟨B, rfl, -, hlt, hfs⟩, hq⟩; obtain ⟨q1, rfl⟩ := gr_of_below hq; clear hq; have hlt' := Lib.hid hlt; have hfs' := Lib.hid hfs; clear hlt hfs) | (go_at_call 90; refine (h2'.out _ _).mono ?_; rintro e w' ⟨rfl, hq⟩; obtain ⟨q0, rfl⟩ := gr_of_below hq; clear hq) | (go_at_call 94; refine (h3.out _).mono ?_; rintro e w' ⟨rfl, hq⟩; obtain ⟨q2, rfl⟩ := gr_of_below hq; clear hq) | (go_at_call 93; refine Calls.mono (h4.out B _ ?_ ?_) ?_; rotate_left 2; rintro e w' ⟨⟨ao2, c2, rfl, hf2⟩, hq⟩; obtain ⟨q3, rfl⟩ := gr_of_below hq; simp only [gr_gr] at hf2; have hf2' := Lib.hid hf2; clear hq hf2; rotate_right 2) | (go_at_call 92; refine Calls.mono (h5.out _ _ _ hf2'.out) ?_; rintro e w' ⟨⟨v, rfl, ao3, c3, rfl, hf3, hn3, hk3⟩, hq⟩; obtain ⟨q4, rfl⟩ := gr_of_below hq; simp only [gr_gr] at hf3; have hf3' := Lib.hid hf3; have hn3' := Lib.hid hn3; have hk3' := Lib.hid hk3; clear hq hf3 hn3 hk3))
  case refine_1 => rw [← gr_gr, ← gr_gr]; exact Nat.lt_of_lt_of_le hlt'.out ((gr_below _ q0).trans ((gr_below _ q2).mono (gr_below _ q0).size)).size
  case refine_2 => rw [← gr_gr, ← gr_gr]; exact hfs'.out.below ((gr_below _ q0).trans ((gr_below _ q2).mono (gr_below _ q0).size)) hlt'.out
  refine bodyPost_ret (v := .agg #[.int .i64 2, .int .i64 dd, .slice ao3 F.length c3, .slice none 0 0]) (by simp [results, Try.results43, go_sem]) rfl ⟨⟨_, rfl, ao3, c3, rfl, ?_, hn3'.out⟩, (by repeat (first | exact Below.refl _ _ | (refine below_gr' ?_ (by first | omega | (simp [go_sem] <;> omega))) | (refine Below.alloc ?_ (by first | omega | (simp [go_sem] <;> omega)) _) | refine Below.drew ?_ | (refine Below.setCell ?_ (by first | omega | (simp [go_sem] <;> omega)) _)))⟩
  have hs0 : ∀ (o1 o2 : Obj), ((w.alloc o1).alloc o2).heap.size = w.heap.size + 1 + 1 := fun _ _ => by simp
  have hs1 : ∀ (o1 : Obj), (w.alloc o1).heap.size = w.heap.size + 1 := fun _ => by simp
  intro h0
  obtain ⟨b, off, rfl, hlt, hf⟩ := hf3'.out h0
  have hk := hk3'.out _ rfl
  rw [gr_size, hs0] at hlt hk
  have hk2 : w.heap.size + 1 + 1 ≤ b := Nat.le_trans (Nat.le_add_right _ _) hk
  refine ⟨b, off, rfl, ?_, ?_⟩
  · rw [gr_size, hs0]
    exact hlt
  · refine hf.of_sameO ?_
    refine gr_alloc_other (w.alloc _) _ _ _ b ?_
    rw [hs1]
    omega
end Go.Proofs.Ytpphfoggjejpiaa
