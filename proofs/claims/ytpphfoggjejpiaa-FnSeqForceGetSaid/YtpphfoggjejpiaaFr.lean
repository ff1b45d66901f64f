/-
  The frame of every law's proof: a call that answers true and turns nothing that was there gives what the statement asks. Conditions: as the theorems state them.
-/
import Derived.Test.YtpphfoggjejpiaaRows
import Derived.WalkKit
import Derived.ProofKit
import Derived.OpenShut
import Derived.Lib.SmallJoins
namespace Go.Proofs.Ytpphfoggjejpiaa
open Go.ChangeShapes Go.WideShapes Go.ChangeAt Go.RowKit

theorem Try.own : ownKnob Try.prog.godebug = none := by kernel_rfl
theorem Try.laidOut : laidOutB Try.prog = true := by kernel_rfl

theorem cellsXY : Try.prog.cellsOf 24 = 2 := by kernel_rfl
theorem cellsBox : Try.prog.cellsOf 34 = 4 := by kernel_rfl

section
variable {H : Type} {enc : TypeId × Value → H}

theorem stays_all {W W' : World} (hb : Below W.heap.size W W') : ∀ {ts : List TypeId} {vs : List Value} {ds : List (DataW H)} {ps : List MemPlace},
    (∀ t ∈ ts, Try.prog.readableRec t = true ∧ t < Try.prog.types.size) → DataW.TrodAll enc Try.prog W 0 (fun _ => true) true ts vs ds ps → (∀ x ∈ ps, x.block < W.heap.size) →
    DataW.TrodAll enc Try.prog W' 0 (fun b => decide (b < W.heap.size)) true ts vs ds ps
  | [], vs, ds, ps, _, h, _ => by
    obtain ⟨rfl, rfl, rfl⟩ := trodAll_nil h
    exact trodAll_mk0
  | t :: ts, vs, ds, ps, ht, h, hp => by
    obtain ⟨v, vs', d, ds', p, q, rfl, rfl, rfl, h1, h2⟩ := trodAll_cons h
    exact trodAll_cons_mk (Below.trod Try.laidOut (ht t (List.mem_cons_self ..)).1 (ht t (List.mem_cons_self ..)).2 h1 hb (fun x hx => hp x (List.mem_append_left _ hx)))
      (stays_all hb (fun u hu => ht u (List.mem_cons_of_mem _ hu)) h2 (fun x hx => hp x (List.mem_append_right _ hx)))

/-- A LAW's END: it answers true, and of what was there nothing has turned. -/
theorem law_post {f : Func} {s : ChangeSpec} {W W' : World} {args : Array Value} {ds gs : List (DataW H)} {before : List MemPlace} (hv : s.vars = []) (hrt : f.resultTypes = #[4])
    (hs : s.fn H (ds ++ gs) = { results := [.lit (.bool true)], args := ds })
    (ht : ∀ t ∈ f.params.toList, Try.prog.readableRec t = true ∧ t < Try.prog.types.size)
    (hW : DataW.Whole enc Try.prog f.params.toList s.vars false W args.toList ds gs before) (hb : Below W.heap.size W W') :
    s.post enc Try.prog f false true false false W args (.bool true) W' := by
  have hlt := hW.lt
  have hW' := hW
  rw [hv] at hW
  obtain ⟨p, q, hA, hV, rfl, hz, hn⟩ := hW
  obtain ⟨rfl, rfl⟩ := trodVars_none hV
  rw [List.append_nil] at hlt hW' hs
  refine ⟨ds, [], p, [], p, [], hW', ?_, ?_, ?_, hb.frame _, fun h => by cases h⟩
  · rw [hrt, List.append_nil, hs]
    exact trodAll_mk1 (shut_bool Try.underlying4 true)
  · rw [List.append_nil, hs]
    exact stays_all hb ht hA hlt
  · rw [hv, List.append_nil, hs]
    rfl

theorem trod_float {P : Program} {w : World} {base : Nat} {spare : Nat → Bool} {held : Bool} {fuel : Nat} {t : TypeId} {cs : List Value} {x : DataW H × List MemPlace} {k : FloatKind} (ht : P.underlying t = some (.float k))
    (h : DataW.trod enc P w base spare held fuel t cs = some x) : ∃ n, cs = [.float k n] ∧ x = (.lit (.float k n), []) ∧ (Lit.float k n).wf = true := by
  cases fuel with
  | zero => simp [DataW.trod] at h
  | succ n =>
    unfold DataW.trod at h
    rw [ht] at h
    split at h <;> simp_all

theorem f64_lt {n : Nat} (h : (Lit.float .f64 n).wf = true) : n < 2 ^ 64 := by
  simpa [Lit.wf] using h

section
variable {w : World} {base b0 : Nat} {spare : Nat → Bool} {held : Bool} {v : Value} {d : DataW H} {ps : List MemPlace} {r : Reach}
set_option maxRecDepth 100000 in
/-- A place as an argument. -/
theorem open_xy (hval : Value.okWide Try.prog w r b0 24 v) (h : DataW.Trod enc Try.prog w base spare held 24 v d ps) : ∃ a b, v = .agg #[.float .f64 a, .float .f64 b] ∧ a < 2 ^ 64 ∧ b < 2 ^ 64 := by
  obtain ⟨c0, c1, y0, y1, m, rfl, rfl, rfl, hy0, hy1⟩ := Joins.open_agg2 Try.underlying24 (by kernel_rfl) cellsXY hval h
  obtain ⟨a, e0, rfl, wa⟩ := trod_float Try.underlying22 hy0
  obtain ⟨b, e1, rfl, wb⟩ := trod_float Try.underlying22 hy1
  simp only [List.cons.injEq, and_true] at e0 e1
  subst e0 e1
  exact ⟨a, b, rfl, f64_lt wa, f64_lt wb⟩

set_option maxRecDepth 100000 in
/-- A box as an argument. -/
theorem open_box (hval : Value.okWide Try.prog w r b0 34 v) (h : DataW.Trod enc Try.prog w base spare held 34 v d ps) : ∃ a b c e, v = .agg #[.float .f64 a, .float .f64 b, .float .f64 c, .float .f64 e] ∧ a < 2 ^ 64 ∧ b < 2 ^ 64 ∧ c < 2 ^ 64 ∧ e < 2 ^ 64 := by
  obtain ⟨c0, c1, c2, c3, y0, y1, y2, y3, m, rfl, rfl, rfl, hy0, hy1, hy2, hy3⟩ := Joins.open_agg4 Try.underlying34 (by kernel_rfl) cellsBox hval h
  obtain ⟨a, e0, rfl, wa⟩ := trod_float Try.underlying22 hy0
  obtain ⟨b, e1, rfl, wb⟩ := trod_float Try.underlying22 hy1
  obtain ⟨c, e2, rfl, wc⟩ := trod_float Try.underlying22 hy2
  obtain ⟨e, e3, rfl, we⟩ := trod_float Try.underlying22 hy3
  simp only [List.cons.injEq, and_true] at e0 e1 e2 e3
  subst e0 e1 e2 e3
  exact ⟨a, b, c, e, rfl, f64_lt wa, f64_lt wb, f64_lt wc, f64_lt we⟩
end
end
end Go.Proofs.Ytpphfoggjejpiaa
