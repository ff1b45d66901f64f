/-
  A region that draws its order and whose operations may lay blocks and hand back addresses: each operation by what holds of its value, given what holds of the values that it waits for; one proof for every order. Conditions: as the theorems state them.
-/
import Derived.Test.YtpphfoggjejpiaaTl
namespace Go.Proofs.Ytpphfoggjejpiaa
open Go.RowKit Go.Sort

/-- The frame with the region's slots filled. -/
def fillU : List Oper → Nat → (Nat → Value) → Act → Act
  | [], _, _, a => a
  | o :: rest, k, u, a => fillU rest (k + 1) u (a.put o.dst (u k))

def relAt (Rs : List (Value → World → Prop)) (i : Nat) (v : Value) (w : World) : Prop :=
  match Rs[i]? with
  | some R => R v w
  | none => True

/-- What is known of the values that an operation waits for. -/
def depF (md : Region.Mode) (Rs : List (Value → World → Prop)) (u : Nat → Value) (w : World) : List Edge → Prop
  | [] => True
  | e :: es => (if Region.binds md e = true then relAt Rs e.on (u e.on) w else True) ∧ depF md Rs u w es

/-- One operation: whatever it yields is as R says, and of what was there nothing has turned. -/
def RelStep (P : Program) (ops : Array Oper) (Q : Exit → Act → World → Prop) (o : Oper) (R : Value → World → Prop) (a : Act) (w : World) : Prop :=
  ∀ K : Act → World → Prop, (∀ v w', Below w.heap.size w w' → R v w' → K (a.put o.dst v) w') → if Region.wanted o (yielded ops a.tmps) = true then o.wp P a w K Q else K (a.put o.dst undef) w

/-- All operations of a list, from number i on. -/
def RelAll (P : Program) (md : Region.Mode) (l : List Oper) (Rs : List (Value → World → Prop)) (w0 : World) (a0 : Act) (Q : Exit → Act → World → Prop) : Nat → List Oper → Prop
  | _, [] => True
  | i, o :: rest => (∀ (u : Nat → Value) (w : World), Below w0.heap.size w0 w → depF md Rs u w o.after.toList → RelStep P l.toArray Q o (relAt Rs i) (fillU l 0 u a0) w) ∧ RelAll P md l Rs w0 a0 Q (i + 1) rest

def acycB (md : Region.Mode) (l : List Oper) : Bool :=
  (List.range l.length).all fun i => ((l[i]?).map fun o => o.after.all fun e => !Region.binds md e || decide (e.on < i)).getD false

/-- No slot is written twice. -/
def onceB : List Oper → Bool
  | [] => true
  | o :: rest => (match o.dst with | none => true | some d => rest.all fun o' => match o'.dst with | none => true | some d' => d' != d) && onceB rest

section
variable {P : Program} {md : Region.Mode} {l : List Oper} {Rs : List (Value → World → Prop)} {w0 : World} {a0 : Act} {Q : Exit → Act → World → Prop}

theorem acycB_spec (h : acycB md l = true) : ∀ i o, l[i]? = some o → ∀ e ∈ o.after, Region.binds md e = true → e.on < i := by
  intro i o ho e he hb
  have hi : i < l.length := (List.getElem?_eq_some_iff.1 ho).1
  have := List.all_eq_true.1 h i (List.mem_range.2 hi)
  rw [ho] at this
  simp only [Option.map_some, Option.getD_some] at this
  have := Array.all_eq_true'.1 this e he
  simp only [Bool.or_eq_true, Bool.not_eq_true', decide_eq_true_eq, hb] at this
  rcases this with h | h
  · cases h
  · exact h

theorem put_put_same (a : Act) (d : Option Tmp) (v v' : Value) : (a.put d v).put d v' = a.put d v' := by
  cases d with
  | none => rfl
  | some d =>
    unfold Act.put
    simp

theorem fill_put_out (o : Oper) (v : Value) (u : Nat → Value) : ∀ (l : List Oper) (k : Nat) (a : Act), (∀ o' ∈ l, ∀ d, o.dst = some d → ∀ d', o'.dst = some d' → d' ≠ d) → fillU l k u (a.put o.dst v) = (fillU l k u a).put o.dst v
  | [], _, _, _ => rfl
  | o' :: rest, k, a, h => by
    unfold fillU
    have hc : (a.put o.dst v).put o'.dst (u k) = (a.put o'.dst (u k)).put o.dst v := by
      cases hd : o.dst with
      | none => rfl
      | some d =>
        cases hd' : o'.dst with
        | none => rfl
        | some d' =>
          have := h o' (List.mem_cons_self ..) d hd d' hd'
          unfold Act.put
          dsimp only
          rw [Array.setIfInBounds_comm _ _ (fun e => this e.symm)]
    rw [hc]
    exact fill_put_out o v u rest (k + 1) _ (fun o'' ho'' => h o'' (List.mem_cons_of_mem _ ho''))

theorem onceB_spec {o : Oper} {rest : List Oper} (h : onceB (o :: rest) = true) : (∀ o' ∈ rest, ∀ d, o.dst = some d → ∀ d', o'.dst = some d' → d' ≠ d) ∧ onceB rest = true := by
  unfold onceB at h
  simp only [Bool.and_eq_true] at h
  refine ⟨fun o' ho' d hd d' hd' => ?_, h.2⟩
  have h1 := h.1
  rw [hd] at h1
  have := List.all_eq_true.1 h1 o' ho'
  rw [hd'] at this
  simpa using this

theorem fill_same_tail (u u' : Nat → Value) : ∀ (l : List Oper) (k : Nat) (a : Act), (∀ j, k ≤ j → u j = u' j) → fillU l k u a = fillU l k u' a
  | [], _, _, _ => rfl
  | o :: rest, k, a, h => by
    unfold fillU
    rw [h k (Nat.le_refl _)]
    exact fill_same_tail u u' rest (k + 1) _ (fun j hj => h j (by omega))

/-- Number i's value laid into the frame: the frame with number i's value. -/
theorem fill_update (u : Nat → Value) (v : Value) : ∀ (l : List Oper) (k i : Nat) (o : Oper) (a : Act), onceB l = true → l[i]? = some o → (fillU l k u a).put o.dst v = fillU l k (fun j => if j = k + i then v else u j) a
  | [], _, _, _, _, _, h => by cases h
  | o' :: rest, k, 0, o, a, hn, h => by
    have e : o' = o := by simpa using h
    subst e
    obtain ⟨h1, _⟩ := onceB_spec hn
    unfold fillU
    rw [← fill_put_out o' v u rest (k + 1) _ h1, put_put_same]
    have : (if k = k + 0 then v else u k) = v := by simp
    show _ = fillU rest (k + 1) _ (a.put o'.dst (if k = k + 0 then v else u k))
    rw [this]
    exact fill_same_tail _ _ rest (k + 1) _ (fun j hj => by rw [if_neg (by omega)])
  | o' :: rest, k, i + 1, o, a, hn, h => by
    obtain ⟨_, h2⟩ := onceB_spec hn
    have h' : rest[i]? = some o := by simpa using h
    unfold fillU
    rw [fill_update u v rest (k + 1) i o _ h2 h']
    have e1 : (if k = k + (i + 1) then v else u k) = u k := by rw [if_neg (by omega)]
    show _ = fillU rest (k + 1) _ (a.put o'.dst (if k = k + (i + 1) then v else u k))
    rw [e1]
    exact fill_same_tail _ _ rest (k + 1) _ (fun j hj => by
      by_cases hji : j = k + 1 + i
      · rw [if_pos hji, if_pos (by omega)]
      · rw [if_neg hji, if_neg (by omega)])

/-- The frame as it was. -/
theorem fill_start (a0 : Act) : ∀ (l : List Oper) (k : Nat), fillU l k (fun j => (((l[j - k]?).bind (·.dst)).bind (a0.tmps[·]?)).getD undef) a0 = a0
  | [], _ => rfl
  | o :: rest, k => by
    unfold fillU
    have e0 : a0.put o.dst ((((((o :: rest)[k - k]?).bind (·.dst))).bind (a0.tmps[·]?)).getD undef) = a0 := by
      simp only [Nat.sub_self, List.getElem?_cons_zero, Option.bind_some]
      cases hd : o.dst with
      | none => rfl
      | some d =>
        unfold Act.put
        simp only [Option.bind_some]
        obtain ⟨tmps, defers⟩ := a0
        dsimp only
        congr 1
        apply Array.ext_getElem?
        intro j
        rw [Array.getElem?_setIfInBounds]
        by_cases hj : d = j
        · subst hj
          by_cases hs : d < tmps.size
          · simp [hs]
          · simp [hs]
        · simp [hj]
    rw [e0]
    have e1 := fill_start a0 rest (k + 1)
    refine Eq.trans (fill_same_tail _ _ rest (k + 1) _ (fun j hj => ?_)) e1
    have : j - k = (j - (k + 1)) + 1 := by omega
    rw [this, List.getElem?_cons_succ]

theorem relAll_at : ∀ (l' : List Oper) (k i : Nat) (o : Oper), RelAll P md l Rs w0 a0 Q k l' → l'[i]? = some o →
    ∀ (u : Nat → Value) (w : World), Below w0.heap.size w0 w → depF md Rs u w o.after.toList → RelStep P l.toArray Q o (relAt Rs (k + i)) (fillU l 0 u a0) w
  | [], _, _, _, _, h => by cases h
  | o' :: rest, k, 0, o, hA, h => by
    have e : o' = o := by simpa using h
    subst e
    exact hA.1
  | o' :: rest, k, i + 1, o, hA, h => by
    have := relAll_at rest (k + 1) i o hA.2 (by simpa using h)
    rw [show k + (i + 1) = k + 1 + i by omega]
    exact this

theorem depF_of {u : Nat → Value} {w : World} : ∀ (es : List Edge), (∀ e ∈ es, Region.binds md e = true → relAt Rs e.on (u e.on) w) → depF md Rs u w es
  | [], _ => trivial
  | e :: es, h => ⟨by split <;> first | exact h e (List.mem_cons_self ..) ‹_› | trivial, depF_of es (fun e' he' => h e' (List.mem_cons_of_mem _ he'))⟩

theorem getD_rep (m j : Nat) : (Array.replicate m false).getD j false = false := by
  rcases Nat.lt_or_ge j m with h | h <;> simp [h]

theorem wpAny_rel (hac : ∀ i o, l[i]? = some o → ∀ e ∈ o.after, Region.binds md e = true → e.on < i) (hon : onceB l = true)
    (hst : ∀ i v w w', Below w.heap.size w w' → relAt Rs i v w → relAt Rs i v w') (hA : RelAll P md l Rs w0 a0 Q 0 l)
    (hfin : ∀ u w, Below w0.heap.size w0 w → (∀ i, i < l.length → relAt Rs i (u i) w) → Q .normal (fillU l 0 u a0) w) :
    ∀ (f : Nat) (listed : Array Bool) (u : Nat → Value) (w : World), listed.size = l.length → listed.toList.count false ≤ f → Below w0.heap.size w0 w → (∀ i, i < l.length → listed.getD i false = true → relAt Rs i (u i) w) →
      wpAny P md l.toArray Q f listed (fillU l 0 u a0) w := by
  have hdone : ∀ (listed : Array Bool) (u : Nat → Value) (w : World), listed.size = l.length → Below w0.heap.size w0 w → (∀ i, i < l.length → listed.getD i false = true → relAt Rs i (u i) w) → Region.ready md l.toArray listed = [] → Q .normal (fillU l 0 u a0) w := by
    intro listed u w hs hw hr h0
    refine hfin u w hw (fun i hi => hr i hi ?_)
    have := all_listed hac hs h0 i hi
    have hi' : i < listed.size := by omega
    simp [hi'] at this ⊢
    exact this
  intro f
  induction f with
  | zero =>
    intro listed u w hs hc hw hr
    have h0 : Region.ready md l.toArray listed = [] := by
      rw [List.eq_nil_iff_forall_not_mem]
      intro j hj
      obtain ⟨hu, oj, hoj, _⟩ := mem_ready.1 hj
      have hj' : j < l.length := by
        have := (Array.getElem?_eq_some_iff.1 hoj).1
        simpa using this
      have hj2 : j < listed.size := by omega
      have hm : false ∈ listed.toList := by
        have : listed[j] = false := by simpa [hj2] using hu
        rw [← this]; simp
      have := List.count_pos_iff.2 hm
      omega
    exact ⟨h0, hdone listed u w hs hw hr h0⟩
  | succ f ih =>
    intro listed u w hs hc hw hr
    refine ⟨fun h0 => hdone listed u w hs hw hr h0, fun i hi => ?_⟩
    obtain ⟨hun, o, ho, hall⟩ := mem_ready.1 hi
    have hi' : i < l.length := by
      have := (Array.getElem?_eq_some_iff.1 ho).1
      simpa using this
    have hi2 : i < listed.size := by omega
    have hol : l[i]? = some o := by simpa using ho
    have hstep := relAll_at l 0 i o hA hol u w hw (depF_of _ (fun e he hb => hr e.on (by have := hac i o hol e (by simpa using he) hb; omega) (hall e (by simpa using he) hb)))
    rw [Nat.zero_add] at hstep
    have hnext : ∀ v w', Below w.heap.size w w' → relAt Rs i v w' → wpAny P md l.toArray Q f (listed.setIfInBounds i true) ((fillU l 0 u a0).put o.dst v) w' := by
      intro v w' hb hR
      rw [fill_update u v l 0 i o a0 hon hol]
      refine ih _ _ w' (by simp [hs]) ?_ (hw.trans (hb.mono hw.size)) (fun j hj hjl => ?_)
      · have hf : listed.toList[i]? = some false := by
          have : listed[i] = false := by simpa [hi2] using hun
          rw [Array.getElem?_toList, Array.getElem?_eq_getElem hi2, this]
        have e1 : (listed.setIfInBounds i true).toList = listed.toList.set i true := by simp
        rw [e1, List.count_set (by simpa using hi2)]
        have h2 : listed.toList[i]'(by simpa using hi2) = false := by simpa [hi2] using hun
        simp only [h2, beq_self_eq_true, if_true]
        have : (true == false) = false := rfl
        simp only [this, Bool.false_eq_true, if_false]
        omega
      · by_cases hji : j = 0 + i
        · rw [if_pos hji]
          have : j = i := by omega
          subst this
          exact hR
        · rw [if_neg hji]
          rw [getD_set_ne false (by omega)] at hjl
          exact hst j _ w w' hb (hr j hj hjl)
    have := hstep (fun a' w' => wpAny P md l.toArray Q f (listed.setIfInBounds i true) a' w') hnext
    unfold wpOp
    rw [ho]
    dsimp only
    by_cases hwt : Region.wanted o (yielded l.toArray (fillU l 0 u a0).tmps) = true
    · rw [if_pos hwt] at this ⊢
      exact .inl this
    · rw [if_neg hwt] at this ⊢
      exact this

/-- THE LAW. -/
theorem wp_region_rel {id : Nat} (Rs : List (Value → World → Prop)) (hm : P.follows .mixedOrders = true) (hac : acycB .any l = true) (hon : onceB l = true)
    (hst : ∀ R ∈ Rs, ∀ v w w', Below w.heap.size w w' → R v w → R v w') (hA : RelAll P .any l Rs w0 a0 Q 0 l)
    (hfin : ∀ u w, Below w0.heap.size w0 w → (∀ i, i < l.length → relAt Rs i (u i) w) → Q .normal (fillU l 0 u a0) w) : (Code.region id l.toArray true).wp P Q a0 w0 := by
  refine wp_region_any hm ?_
  have hst' : ∀ i v w w', Below w.heap.size w w' → relAt Rs i v w → relAt Rs i v w' := by
    intro i v w w' hb h
    unfold relAt at h ⊢
    cases hR : Rs[i]? with
    | none => trivial
    | some R =>
      rw [hR] at h
      exact hst R (List.mem_of_getElem? hR) v w w' hb h
  have := wpAny_rel (acycB_spec hac) hon hst' hA hfin l.toArray.size (Array.replicate l.toArray.size false) (fun j => (((l[j - 0]?).bind (·.dst)).bind (a0.tmps[·]?)).getD undef) { w0 with drawn := w0.drawn + 1 }
    (by simp) (by simp [List.count_replicate]) ((Below.refl _ _).drew) (fun i hi h => by rw [getD_rep] at h; cases h)
  rw [fill_start] at this
  exact this
end
end Go.Proofs.Ytpphfoggjejpiaa
