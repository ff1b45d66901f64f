/-
  A region that draws its order, all of whose operations but the last only read or call quietly, and whose last one (a store) waits for all others: walked once, in the text's order. Conditions: as the theorems state them.
-/
import Derived.Test.YtpphfoggjejpiaaLw
namespace Go.Proofs.Ytpphfoggjejpiaa
open Go.RowKit Go.Sort

/-- The same operation, but that it does nothing. -/
def idle (o : Oper) : Oper := { o with op := .move (.const undef), guard := none }

def tailOps (n : Nat) (l : List Oper) : List Oper := l.take n ++ (l.drop n).map idle

/-- One operation stands behind the first n; it has no slot, and waits for each of them; none waits for a later one. -/
def tailB (md : Region.Mode) (n : Nat) (l : List Oper) : Bool :=
  l.length == n + 1 &&
  ((l[n]?).map fun o => o.dst.isNone && (List.range n).all fun i => o.after.any fun e => Region.binds md e && e.on == i).getD false &&
  (List.range (n + 1)).all fun i => ((l[i]?).map fun o => o.after.all fun e => !Region.binds md e || decide (e.on < i)).getD false

section
variable {P : Program} {md : Region.Mode} {C : World → Prop} {n : Nat} {l : List Oper}

theorem tailOps_lt {i : Nat} (hi : i < n) : (tailOps n l)[i]? = l[i]? := by
  unfold tailOps
  by_cases h : i < l.length
  · rw [List.getElem?_append_left (by simp; omega), List.getElem?_take_of_lt hi]
  · have h1 : l.drop n = [] := List.drop_eq_nil_of_le (by omega)
    rw [h1]; simp
    rw [List.take_of_length_le (by omega)]

theorem tailOps_last (hl : l.length = n + 1) : (tailOps n l)[n]? = (l[n]?).map idle := by
  unfold tailOps
  have h1 : (l.take n).length = n := by simp; omega
  rw [List.getElem?_append_right (by omega), h1, Nat.sub_self, List.getElem?_map, List.getElem?_drop, Nat.add_zero]

theorem tailOps_length : (tailOps n l).length = l.length := by
  unfold tailOps; simp; omega

theorem tailOps_after (hl : l.length = n + 1) (i : Nat) : ((tailOps n l)[i]?).map (·.after) = (l[i]?).map (·.after) := by
  by_cases h : i < n
  · rw [tailOps_lt h]
  · by_cases h2 : i = n
    · subst h2
      rw [tailOps_last hl]
      cases l[i]? <;> rfl
    · rw [List.getElem?_eq_none (by rw [tailOps_length]; omega), List.getElem?_eq_none (by omega)]

theorem tailOps_dst (hl : l.length = n + 1) (i : Nat) : ((tailOps n l)[i]?).bind (·.dst) = (l[i]?).bind (·.dst) := by
  by_cases h : i < n
  · rw [tailOps_lt h]
  · by_cases h2 : i = n
    · subst h2
      rw [tailOps_last hl]
      cases l[i]? <;> rfl
    · rw [List.getElem?_eq_none (by rw [tailOps_length]; omega), List.getElem?_eq_none (by omega)]

theorem yielded_tail (hl : l.length = n + 1) (tmps : Array Value) : yielded (tailOps n l).toArray tmps = yielded l.toArray tmps := by
  funext j
  unfold yielded
  simp only [List.getElem?_toArray, tailOps_dst hl]

theorem ready_tail (hl : l.length = n + 1) (listed : Array Bool) : Region.ready md (tailOps n l).toArray listed = Region.ready md l.toArray listed := by
  unfold Region.ready
  simp only [List.size_toArray, tailOps_length, List.getElem?_toArray]
  congr 1
  funext i
  congr 1
  have h := tailOps_after hl i
  cases h1 : (tailOps n l)[i]? <;> cases h2 : l[i]? <;> rw [h1, h2] at h <;> simp_all

theorem tailB_spec (h : tailB md n l = true) : l.length = n + 1 ∧
    (∃ o, l[n]? = some o ∧ o.dst = none ∧ ∀ i, i < n → ∃ e ∈ o.after, Region.binds md e = true ∧ e.on = i) ∧
    ∀ i o, l[i]? = some o → ∀ e ∈ o.after, Region.binds md e = true → e.on < i := by
  unfold tailB at h
  simp only [Bool.and_eq_true, beq_iff_eq] at h
  obtain ⟨⟨h1, h2⟩, h3⟩ := h
  refine ⟨h1, ?_, ?_⟩
  · cases ho : l[n]? with
    | none => rw [ho] at h2; cases h2
    | some o =>
      rw [ho] at h2
      simp only [Option.map_some, Option.getD_some, Bool.and_eq_true, Option.isNone_iff_eq_none] at h2
      refine ⟨o, rfl, h2.1, fun i hi => ?_⟩
      have := List.all_eq_true.1 h2.2 i (List.mem_range.2 hi)
      obtain ⟨e, he, hb⟩ := Array.any_eq_true'.1 this
      simp only [Bool.and_eq_true, beq_iff_eq] at hb
      exact ⟨e, he, hb.1, hb.2⟩
  · intro i o ho e he hb
    have hi : i < l.length := (List.getElem?_eq_some_iff.1 ho).1
    have := List.all_eq_true.1 h3 i (List.mem_range.2 (by omega))
    rw [ho] at this
    simp only [Option.map_some, Option.getD_some] at this
    have := Array.all_eq_true'.1 this e he
    simp only [Bool.or_eq_true, Bool.not_eq_true', decide_eq_true_eq, hb] at this
    rcases this with h | h
    · cases h
    · exact h

/-- Where nothing may come up any more all has come up. -/
theorem all_listed (hac : ∀ i o, l[i]? = some o → ∀ e ∈ o.after, Region.binds md e = true → e.on < i) {listed : Array Bool} (hs : listed.size = l.length) (hr : Region.ready md l.toArray listed = []) :
    ∀ i, i < l.length → listed.getD i true = true := by
  intro i
  induction i using Nat.strongRecOn with
  | _ i ih =>
    intro hi
    cases h : listed.getD i true with
    | true => rfl
    | false =>
      have : i ∈ Region.ready md l.toArray listed := by
        rw [mem_ready]
        refine ⟨h, l[i], by simp [hi], fun e he hb => ?_⟩
        have h1 := hac i l[i] (List.getElem?_eq_getElem hi) e he hb
        have h2 := ih e.on h1 (by omega)
        have h3 : e.on < listed.size := by omega
        simp [h3] at h2 ⊢
        exact h2
      rw [hr] at this
      cases this

theorem wpAny_of_tail {Q : Exit → Act → World → Prop} {Qh : Act → Prop} (hl : l.length = n + 1) (hlast : ∃ o, l[n]? = some o ∧ o.dst = none ∧ ∀ i, i < n → ∃ e ∈ o.after, Region.binds md e = true ∧ e.on = i)
    (hac : ∀ i o, l[i]? = some o → ∀ e ∈ o.after, Region.binds md e = true → e.on < i)
    (hQ : ∀ a w, C w → Qh a → wpOp P l.toArray Q n (fun a w => Q .normal a w) a w) :
    ∀ (f : Nat) (listed : Array Bool) (a : Act) (w : World), listed.size = n + 1 → listed.getD n true = false → C w → wpAnyQ P md (tailOps n l).toArray C Qh f listed a → wpAny P md l.toArray Q f listed a w
  | 0, listed, a, w, hs, hn, hw, h => by
    exfalso
    have h1 := h.1
    rw [ready_tail hl] at h1
    have := all_listed hac (by omega) h1 n (by omega)
    rw [hn] at this; cases this
  | f + 1, listed, a, w, hs, hn, hw, h => by
    refine ⟨fun hr => ?_, fun i hi => ?_⟩
    · exfalso
      have := all_listed hac (by omega) hr n (by omega)
      rw [hn] at this; cases this
    · have hq := h.2 i (by rw [ready_tail hl]; exact hi)
      obtain ⟨hun, o, ho, hall⟩ := mem_ready.1 hi
      have hi' : i < n + 1 := by
        have := (Array.getElem?_eq_some_iff.1 ho).1
        simp at this; omega
      by_cases hin : i < n
      · -- one of the first n
        have ho' : (tailOps n l).toArray[i]? = some o := by
          simp only [List.getElem?_toArray] at ho ⊢
          rw [tailOps_lt hin, ho]
        have key : wpOp P (tailOps n l).toArray Q i (fun a w => wpAny P md l.toArray Q f (listed.setIfInBounds i true) a w) a w :=
          wpOp_of_qOp (C := C) hw (fun a' w' hw' h' => wpAny_of_tail hl hlast hac hQ f _ a' w' (by simp [hs]) (by rw [getD_set_ne true (by omega)]; exact hn) hw' h') hq
        unfold wpOp at key ⊢
        rw [ho'] at key
        rw [ho]
        simp only [yielded_tail hl] at key
        exact key
      · -- the last one
        have hin' : i = n := by omega
        subst hin'
        obtain ⟨ol, hol, hd, hw2⟩ := hlast
        have hoo : o = ol := by
          simp only [List.getElem?_toArray] at ho
          rw [hol] at ho; exact (Option.some.inj ho).symm
        subst hoo
        have hfull : Region.ready md l.toArray (listed.setIfInBounds i true) = [] := by
          rw [List.eq_nil_iff_forall_not_mem]
          intro j hj
          obtain ⟨hju, oj, hoj, _⟩ := mem_ready.1 hj
          have hj' : j < i + 1 := by
            have := (Array.getElem?_eq_some_iff.1 hoj).1
            simp at this; omega
          by_cases hji : i = j
          · subst hji
            simp [hs] at hju
          · rw [getD_set_ne true hji] at hju
            obtain ⟨e, he, hb, hon⟩ := hw2 j (by omega)
            have := hall e he hb
            rw [hon] at this
            have hjs : j < listed.size := by omega
            simp [hjs] at hju this
            rw [hju] at this; cases this
        have hidle : (tailOps i l).toArray[i]? = some (idle o) := by
          simp only [List.getElem?_toArray]
          rw [tailOps_last hl, hol]; rfl
        have hQa : Qh a := by
          unfold qOp at hq
          rw [hidle] at hq
          have hput : ∀ v, a.put (idle o).dst v = a := fun v => by show a.put o.dst v = a; rw [hd]; rfl
          have hget : wpAnyQ P md (tailOps i l).toArray C Qh f (listed.setIfInBounds i true) a := by
            dsimp only at hq
            rw [if_pos (by rfl)] at hq
            obtain ⟨v, _, h2⟩ := hq
            rw [hput] at h2; exact h2
          cases f with
          | zero => exact hget.2
          | succ f => exact hget.1 (by rw [ready_tail hl]; exact hfull)
        refine wpOp_mono (fun a' w' h' => ?_) (hQ a w hw hQa)
        cases f with
        | zero => exact ⟨hfull, h'⟩
        | succ f => exact ⟨fun _ => h', fun j hj => by rw [hfull] at hj; cases hj⟩

/-- THE LAW: what stands behind the region is asked of the last operation, in every world of the class. -/
theorem wp_region_tail {id : Nat} {Q : Exit → Act → World → Prop} {a : Act} {w : World} (n : Nat) (hm : P.follows .mixedOrders = true) (ht : tailB .any n l = true) (hB : Region.lexB .any (tailOps n l).toArray = true) (hC : C { w with drawn := w.drawn + 1 })
    (h : wpQuiet P (tailOps n l).toArray C (fun a' => ∀ w', C w' → wpList P l.toArray Q (l.drop n) a' w') (tailOps n l) a) : (Code.region id l.toArray true).wp P Q a w := by
  obtain ⟨hl, hlast, hac⟩ := tailB_spec ht
  simp only [Region.lexB, Bool.and_eq_true] at hB
  refine wp_region_any hm ?_
  have h1 := wpAnyQ_lex (C := C) (md := .any) hB.1 (tailOps n l) 0 (Array.replicate (tailOps n l).toArray.size false) a (by simp) (by simpa using hB.2) h
  have h2 : l.toArray.size = (tailOps n l).length := by simp [tailOps_length]
  rw [h2]
  have h3 : (tailOps n l).toArray.size = (tailOps n l).length := by simp
  rw [h3] at h1
  refine wpAny_of_tail hl hlast hac (fun a' w' hw' h' => ?_) _ _ _ _ (by simp [tailOps_length, hl]) (by simp [tailOps_length, hl]) hC h1
  have h4 := h' w' hw'
  obtain ⟨ol, hol, _, _⟩ := hlast
  have h5 : l.drop n = [ol] := by
    rw [List.drop_eq_getElem_cons (by omega), List.drop_eq_nil_of_le (by omega)]
    rw [List.getElem?_eq_getElem (by omega)] at hol
    rw [Option.some.inj hol]
  rw [h5] at h4
  unfold wpOp
  simp only [List.getElem?_toArray, hol]
  exact h4

/-- At the class 'some draws, some new blocks'. -/
theorem wp_region_gr_tail {id : Nat} {Q : Exit → Act → World → Prop} {a : Act} {w : World} (n : Nat) (hm : P.follows .mixedOrders = true) (ht : tailB .any n l = true) (hB : Region.lexB .any (tailOps n l).toArray = true)
    (h : wpQuiet P (tailOps n l).toArray (fun w' => ∃ p, w' = gr w p) (fun a' => ∀ w', (∃ p, w' = gr w p) → wpList P l.toArray Q (l.drop n) a' w') (tailOps n l) a) : (Code.region id l.toArray true).wp P Q a w :=
  wp_region_tail n hm ht hB ⟨⟨w.drawn + 1, #[]⟩, by show _ = grow (redrawn w _) #[]; rw [grow_empty]; rfl⟩ h

theorem wp_region_gr_tail' {id : Nat} {Q : Exit → Act → World → Prop} {a : Act} {w : World} {p : Regrown} (n : Nat) (hm : P.follows .mixedOrders = true) (ht : tailB .any n l = true) (hB : Region.lexB .any (tailOps n l).toArray = true)
    (h : wpQuiet P (tailOps n l).toArray (fun w' => ∃ p, w' = gr w p) (fun a' => ∀ w', (∃ p, w' = gr w p) → wpList P l.toArray Q (l.drop n) a' w') (tailOps n l) a) : (Code.region id l.toArray true).wp P Q a (gr w p) :=
  wp_region_tail n hm ht hB ⟨⟨p.d + 1, p.os⟩, rfl⟩ h
end
end Go.Proofs.Ytpphfoggjejpiaa
