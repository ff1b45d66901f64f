/-
  FnSeqForceGet answers true, whatever its arguments. Conditions: as each theorem states them.
-/
import Derived.Test.YtpphfoggjejpiaaMn
namespace Go.Proofs.Ytpphfoggjejpiaa
open Go.RowKit Fl Go.Sort

theorem plcs_at (e : Int) (fs : List Nat) (m : Nat) : ∀ n i, i < n → (plcs e fs m n)[i]? = some (plc e fs (i * m))
  | 0, i, h => absurd h (Nat.not_lt_zero i)
  | n + 1, i, h => by
    rw [plcs]
    by_cases hi : i < n
    · rw [List.getElem?_append_left (by rw [plcs_length]; exact hi)]
      exact plcs_at e fs m n i hi
    · have : i = n := by omega
      subst this
      rw [List.getElem?_append_right (by rw [plcs_length]; exact Nat.le_refl _), plcs_length, Nat.sub_self]
      rfl

theorem sf_true {w : World} {cs : List Value} {g : G} (h : GC w cs g) (dd i : Int) :
    Calls Try.prog 10 #[.agg cs.toArray, .int .i64 dd, .int .i64 i] w fun e w' => e = .returned (.bool true) ∧ Below w.heap.size w w' := by
  have h0 := h
  cases h with
  | mk kind dim nums kids ao nc ko kc C hk hd hf hw hcap hc hg =>
    cases hz : (!decide ((2147483647 : Int) < (nums.length : Int)) && !decide ((2147483647 : Int) < (kids.length : Int))) with
    | false => exact sf_zz kind dim ao nums.length nc ko kids.length kc dd i hz w
    | true =>
      cases hs : (small (.mk kind dim nums kids) && decide (kind = 2)) with
      | false => exact sf_no kind dim ao nums.length nc ko kids.length kc dd i hz w (fun w' hb => gLine_no w' (h0.keep hb) hs)
      | true =>
        rw [Bool.and_eq_true] at hs
        obtain ⟨hsm, hk2⟩ := hs
        obtain rfl : kind = 2 := of_decide_eq_true hk2
        have hD := d4_mod dim
        have hE := and3 dim
        generalize dim % 4 = e at hD hE
        have hnl := small_nums hsm
        have hle : nums.length / dimN e * dimN e ≤ nums.length := Nat.div_mul_le_self _ _
        have hgl := fun w' (hb : Below w.heap.size w w') => gLine_yes hD hE (n := nums.length / dimN e) (nn := nums.length / dimN e * dimN e) rfl rfl hcap w' (hf.below hb) (h0.keep hb) hsm
        by_cases hin : 0 ≤ dd ∧ dd ≤ 3 ∧ 0 ≤ i ∧ i < ((nums.length / dimN e : Nat) : Int)
        · obtain ⟨h1, h2, h3, h4⟩ := hin
          have hdd : D4 dd := by unfold D4; omega
          have hdd3 : bits .and .i64 dd 3 = dd := by rw [and3]; omega
          obtain ⟨j, rfl⟩ := Int.eq_ofNat_of_zero_le h3
          have hj : j < nums.length / dimN e := by omega
          have hfp := forced_place hdd (e := e) (nums.take (nums.length / dimN e * dimN e)) (dimN e) (nums.length / dimN e) j hj
          refine sf_main 2 dim ao nums.length nc ko kids.length kc dd hdd j hz w _ _ (plcs_at e (nums.take (nums.length / dimN e * dimN e)) (dimN e) (nums.length / dimN e) j hj) 0 (frcL e dd (nums.take (nums.length / dimN e * dimN e)) (dimN e) (nums.length / dimN e)) hgl (fun w' hb => ?_) (fun ao2 c2 w' hc2 => ?_)
          · exact seqForce_any hD hE hdd hdd3 ao nc nums ko kids.length kc (nums.length / dimN e) (nums.length / dimN e * dimN e) rfl rfl hnl w' (hf.below hb)
          · have hn1 : nums.length / dimN e ≤ 1000 := by
              have h2 : 2 ≤ dimN e := by rcases dimN_cases e with h | h | h <;> omega
              exact Nat.le_trans (Nat.div_le_div_left h2 (by omega)) (by omega)
            have hD4 : nums.length / dimN e * dimN dd ≤ 4000 := by rcases dimN_cases dd with h | h | h <;> (rw [h]; omega)
            have := seqGet_any hdd hdd3 ao2 c2 (frcL e dd (nums.take (nums.length / dimN e * dimN e)) (dimN e) (nums.length / dimN e)) none 0 0 (nums.length / dimN e) (frcL_length hdd _ _ _ _) (by rw [frcL_length hdd]; omega) j hj w' hc2
            rw [hfp.1, hfp.2.1, hfp.2.2.1, hfp.2.2.2] at this
            exact this
        · refine sf_out 2 dim ao nums.length nc ko kids.length kc dd i hz w _ hgl ?_
          rw [plcs_length]
          omega
end Go.Proofs.Ytpphfoggjejpiaa
