/-
  The thin package's SeqGet. Conditions: as each theorem states them.
-/
import Derived.Test.YtpphfoggjejpiaaMl
import Derived.Defers
import Derived.Recover
namespace Go.Proofs.Ytpphfoggjejpiaa
open Go.RowKit Fl Go.Sort

theorem getIdle (p q : Addr) (w : World) :
    CallsD Try.prog 88 #[.pointer (some p), .pointer (some q)] .returning w fun e u' w' => e = .returned (.tuple #[]) ∧ u' = .returning ∧ w' = w := by
  refine callsD_of_wpS Try.func88 rfl fun c₀ cs hu => ?_
  apply wpS_seq
  apply wpS_region
  simp [wpOpsS, go_sem, recoverD, hu, Try.ntmps88, Exit.thenS]
  refine wpS_cond (t := false) (by simp [Act.eval, Array.replicate]) ?_
  simp only [Bool.false_eq_true, if_false]
  refine wpS_of_wp (wp_skip ?_)
  cases c₀
  simp_all [bodyPostS, results, Try.results88]

set_option maxHeartbeats 1000000 in
theorem seqGet_any {dd : Int} (hdd : D4 dd) (hdd3 : bits .and .i64 dd 3 = dd) (ao : Option Addr) (nc : Nat) (F : List Nat) (ko : Option Addr) (kl kc n : Nat) (hF : F.length = n * dimN dd) (hl : F.length ≤ 10000) (i : Nat) (hi : i < n) (w : World) (hc : FsSl w ao F) :
    Calls Try.prog 42 #[lineV dd ao F.length nc ko kl kc, .int .i64 i] w fun en w' => en = .returned (.tuple #[.agg #[.float .f64 (F[i * dimN dd]?.getD 0), .float .f64 (F[i * dimN dd + 1]?.getD 0), .float .f64 (fz dd F (i * dimN dd)), .float .f64 (fm dd F (i * dimN dd)), .int .i64 dd], .bool true]) ∧ Below w.heap.size w w' := by
  have hwr : IntKind.i64.wrap dd = dd := by rcases hdd with rfl | rfl | rfl | rfl <;> rfl
  have hmul : n * dimN dd % dimN dd = 0 := Nat.mul_mod_left _ _
  have hj : i * dimN dd + dimN dd ≤ F.length := by rw [hF, ← Nat.succ_mul]; exact Nat.mul_le_mul_right _ hi
  have h1 := Lib.hid (fun w' (hb : Below w.heap.size w w') => line_gen hdd hdd3 ao nc F ko kl kc F.length (by rw [hF, hmul]; rfl) (by omega) w' (hc.below hb))
  rw [List.take_length] at h1
  have h2' := Lib.hid (fun B w' => coordinates_any dd B F.length F.length w')
  have h3 := Lib.hid (fun B w' hb hf => get_any hdd B F.length i (i * dimN dd) F rfl hj (by omega) w' hb hf)
  generalize F[i * dimN dd]?.getD 0 = x at *
  generalize F[i * dimN dd + 1]?.getD 0 = y at *
  generalize fz dd F (i * dimN dd) = z at *
  generalize fm dd F (i * dimN dd) = mm at *
  clear hc hl hF hmul hj hdd hdd3
  unfold lineV seqV coV at *
  have hmf : ∀ (fn : Fn) (first cap : Array Value) (w : World), (Instr.makeFunc fn first cap).run Try.prog w = .ok (.func fn first cap) w := fun _ _ _ _ => rfl
  go_enter_defers Try.func42, Try.ntmps42
  go_wp2_with (first | (go_at_call 89; refine (h1.out _ (by repeat (first | exact Below.refl _ _ | (refine below_gr' ?_ (by first | omega | (simp [go_sem] <;> omega))) | (refine Below.alloc ?_ (by first | omega | (simp [go_sem] <;> omega)) _) | refine Below.drew ?_ | (refine Below.setCell ?_ (by first | omega | (simp [go_sem] <;> omega)) _)))).mono ?_; rintro e w' ⟨⟨B, rfl, -, hlt, hfs⟩, hq⟩; obtain ⟨q1, rfl⟩ := gr_of_below hq; clear hq; have hlt' := Lib.hid hlt; have hfs' := Lib.hid hfs; clear hlt hfs) | (go_at_call 90; refine (h2'.out _ _).mono ?_; rintro e w' ⟨rfl, hq⟩; obtain ⟨q0, rfl⟩ := gr_of_below hq; clear hq) | (go_at_call 91; refine Calls.mono (h3.out B _ ?_ ?_) ?_; rotate_left 2; rintro e w' ⟨rfl, hq⟩; obtain ⟨q2, rfl⟩ := gr_of_below hq; clear hq; rotate_right 2))
  case refine_1 => rw [← gr_gr]; exact Nat.lt_of_lt_of_le hlt'.out (gr_below _ q0).size
  case refine_2 => rw [← gr_gr]; exact hfs'.out.below (gr_below _ q0) hlt'.out
  refine leaves_cons (f := 88) (args := #[.pointer (some ⟨w.heap.size + 1, 0, none⟩), .pointer (some ⟨w.heap.size + 1 + 1, 0, none⟩)]) (by simp) (by simp [go_sem]) ?_
  refine (getIdle ⟨w.heap.size + 1, 0, none⟩ ⟨w.heap.size + 1 + 1, 0, none⟩ _).mono ?_
  rintro e u' w'' ⟨rfl, rfl, rfl⟩
  simp [Leaves, settle, results, Try.results42, go_sem]
  exact (by repeat (first | exact Below.refl _ _ | (refine below_gr' ?_ (by first | omega | (simp [go_sem] <;> omega))) | (refine Below.alloc ?_ (by first | omega | (simp [go_sem] <;> omega)) _) | refine Below.drew ?_ | (refine Below.setCell ?_ (by first | omega | (simp [go_sem] <;> omega)) _)))
end Go.Proofs.Ytpphfoggjejpiaa
