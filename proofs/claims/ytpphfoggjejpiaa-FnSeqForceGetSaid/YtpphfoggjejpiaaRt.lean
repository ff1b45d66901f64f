/-
  A region that draws its order, as in the text on regions by relations, but that its last operation (a store) waits for all others. Conditions: as the theorems state them.
-/
import Derived.Test.YtpphfoggjejpiaaRl
namespace Go.Proofs.Ytpphfoggjejpiaa
open Go.RowKit Go.Sort

section
variable {P : Program} {md : Region.Mode} {n : Nat} {l : List Oper} {Rs : List (Value → World → Prop)} {w0 : World} {a0 : Act} {Q : Exit → Act → World → Prop}

theorem wpAny_rel_tail (hl : l.length = n + 1) (hlast : ∃ o, l[n]? = some o ∧ o.dst = none ∧ ∀ i, i < n → ∃ e ∈ o.after, Region.binds md e = true ∧ e.on = i)
    (hac : ∀ i o, l[i]? = some o → ∀ e ∈ o.after, Region.binds md e = true → e.on < i) (hon : onceB l = true)
    (hst : ∀ i v w w', Below w.heap.size w w' → relAt Rs i v w → relAt Rs i v w') (hA : RelAll P md l Rs w0 a0 Q 0 (l.take n))
    (hfin : ∀ u w, Below w0.heap.size w0 w → (∀ i, i < n → relAt Rs i (u i) w) → wpOp P l.toArray Q n (fun a w => Q .normal a w) (fillU l 0 u a0) w) :
    ∀ (f : Nat) (listed : Array Bool) (u : Nat → Value) (w : World), listed.size = n + 1 → listed.getD n true = false → listed.toList.count false ≤ f → Below w0.heap.size w0 w → (∀ i, i < n → listed.getD i false = true → relAt Rs i (u i) w) →
      wpAny P md l.toArray Q f listed (fillU l 0 u a0) w := by
  intro f
  induction f with
  | zero =>
    intro listed u w hs hn hc hw hr
    exfalso
    have hn2 : n < listed.size := by omega
    have hm : false ∈ listed.toList := by
      have : listed[n] = false := by simpa [hn2] using hn
      rw [← this]; simp
    have := List.count_pos_iff.2 hm
    omega
  | succ f ih =>
    intro listed u w hs hn hc hw hr
    refine ⟨fun h0 => ?_, fun i hi => ?_⟩
    · exfalso
      have := all_listed hac (by omega) h0 n (by omega)
      rw [hn] at this; cases this
    obtain ⟨hun, o, ho, hall⟩ := mem_ready.1 hi
    have hi' : i < l.length := by
      have := (Array.getElem?_eq_some_iff.1 ho).1
      simpa using this
    have hi2 : i < listed.size := by omega
    have hol : l[i]? = some o := by simpa using ho
    by_cases hin : i < n
    · have hstep := relAll_at (l.take n) 0 i o hA (by rw [List.getElem?_take_of_lt hin]; exact hol) u w hw (depF_of _ (fun e he hb => hr e.on (by have := hac i o hol e (by simpa using he) hb; omega) (hall e (by simpa using he) hb)))
      rw [Nat.zero_add] at hstep
      have hnext : ∀ v w', Below w.heap.size w w' → relAt Rs i v w' → wpAny P md l.toArray Q f (listed.setIfInBounds i true) ((fillU l 0 u a0).put o.dst v) w' := by
        intro v w' hb hR
        rw [fill_update u v l 0 i o a0 hon hol]
        refine ih _ _ w' (by simp [hs]) (by rw [getD_set_ne true (by omega)]; exact hn) ?_ (hw.trans (hb.mono hw.size)) (fun j hj hjl => ?_)
        · have e1 : (listed.setIfInBounds i true).toList = listed.toList.set i true := by simp
          rw [e1, List.count_set (by simpa using hi2)]
          have h2 : listed.toList[i]'(by simpa using hi2) = false := by simpa [hi2] using hun
          have hf : listed.toList[i]? = some false := by rw [List.getElem?_eq_getElem (by simpa using hi2), h2]
          simp only [h2, beq_self_eq_true, if_true]
          have : (true == false) = false := rfl
          simp only [this, Bool.false_eq_true, if_false]
          omega
        · by_cases hji : j = 0 + i
          · rw [if_pos hji]
            have : j = i := by omega
            subst this
            exact hR
          · rw [if_neg hji]
            rw [getD_set_ne false (by omega)] at hjl
            exact hst j _ w w' hb (hr j hj hjl)
      have := hstep (fun a' w' => wpAny P md l.toArray Q f (listed.setIfInBounds i true) a' w') hnext
      unfold wpOp
      rw [ho]
      dsimp only
      by_cases hwt : Region.wanted o (yielded l.toArray (fillU l 0 u a0).tmps) = true
      · rw [if_pos hwt] at this ⊢
        exact .inl this
      · rw [if_neg hwt] at this ⊢
        exact this
    · have hin' : i = n := by omega
      subst hin'
      obtain ⟨ol, hol', hd, hw2⟩ := hlast
      have hoo : o = ol := by rw [hol] at hol'; exact Option.some.inj hol'
      subst hoo
      have hfull : Region.ready md l.toArray (listed.setIfInBounds i true) = [] := by
        rw [List.eq_nil_iff_forall_not_mem]
        intro j hj
        obtain ⟨hju, oj, hoj, _⟩ := mem_ready.1 hj
        have hj' : j < i + 1 := by
          have := (Array.getElem?_eq_some_iff.1 hoj).1
          simp at this; omega
        by_cases hji : i = j
        · subst hji
          simp [hs] at hju
        · rw [getD_set_ne true hji] at hju
          obtain ⟨e, he, hb, hon'⟩ := hw2 j (by omega)
          have := hall e he hb
          rw [hon'] at this
          have hjs : j < listed.size := by omega
          simp [hjs] at hju this
          rw [hju] at this; cases this
      refine wpOp_mono (fun a' w' h' => ?_) (hfin u w hw (fun j hj => hr j hj ?_))
      · cases f with
        | zero => exact ⟨hfull, h'⟩
        | succ f => exact ⟨fun _ => h', fun j hj => by rw [hfull] at hj; cases hj⟩
      · obtain ⟨e, he, hb, hon'⟩ := hw2 j hj
        have := hall e he hb
        rw [hon'] at this
        exact this

/-- THE LAW: n operations by relations, then a store. -/
theorem wp_region_rel_tail {id : Nat} (n : Nat) (Rs : List (Value → World → Prop)) (hm : P.follows .mixedOrders = true) (ht : tailB .any n l = true) (hon : onceB l = true)
    (hst : ∀ R ∈ Rs, ∀ v w w', Below w.heap.size w w' → R v w → R v w') (hA : RelAll P .any l Rs w0 a0 Q 0 (l.take n))
    (hfin : ∀ u w, Below w0.heap.size w0 w → (∀ i, i < n → relAt Rs i (u i) w) → wpList P l.toArray Q (l.drop n) (fillU l 0 u a0) w) : (Code.region id l.toArray true).wp P Q a0 w0 := by
  obtain ⟨hl, hlast, hac⟩ := tailB_spec ht
  refine wp_region_any hm ?_
  have hst' : ∀ i v w w', Below w.heap.size w w' → relAt Rs i v w → relAt Rs i v w' := by
    intro i v w w' hb h
    unfold relAt at h ⊢
    cases hR : Rs[i]? with
    | none => trivial
    | some R =>
      rw [hR] at h
      exact hst R (List.mem_of_getElem? hR) v w w' hb h
  have hfin' : ∀ u w, Below w0.heap.size w0 w → (∀ i, i < n → relAt Rs i (u i) w) → wpOp P l.toArray Q n (fun a w => Q .normal a w) (fillU l 0 u a0) w := by
    intro u w hw hr
    have h4 := hfin u w hw hr
    obtain ⟨ol, hol, _, _⟩ := hlast
    have h5 : l.drop n = [ol] := by
      rw [List.drop_eq_getElem_cons (by omega), List.drop_eq_nil_of_le (by omega)]
      rw [List.getElem?_eq_getElem (by omega)] at hol
      rw [Option.some.inj hol]
    rw [h5] at h4
    unfold wpOp
    simp only [List.getElem?_toArray, hol]
    exact h4
  have := wpAny_rel_tail hl hlast hac hon hst' hA hfin' l.toArray.size (Array.replicate l.toArray.size false) (fun j => (((l[j - 0]?).bind (·.dst)).bind (a0.tmps[·]?)).getD undef) { w0 with drawn := w0.drawn + 1 }
    (by simp [hl]) (by simp [hl]) (by simp [List.count_replicate]) ((Below.refl _ _).drew) (fun i hi h => by rw [getD_rep] at h; cases h)
  rw [fill_start] at this
  exact this
end
end Go.Proofs.Ytpphfoggjejpiaa
