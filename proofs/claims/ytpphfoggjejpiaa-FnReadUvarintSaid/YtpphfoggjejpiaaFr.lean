/-
  The frame of every law's proof: a call that answers true and turns nothing that was there gives what the statement asks. Conditions: as the theorems state them.
-/
import Derived.Test.YtpphfoggjejpiaaRows
import Derived.WalkKit
import Derived.ProofKit
import Derived.OpenShut
import Derived.Lib.SmallJoins
namespace Go.Proofs.Ytpphfoggjejpiaa
open Go.ChangeShapes Go.WideShapes Go.ChangeAt Go.RowKit

theorem Try.own : ownKnob Try.prog.godebug = none := by kernel_rfl
theorem Try.laidOut : laidOutB Try.prog = true := by kernel_rfl

section
variable {H : Type} {enc : TypeId × Value → H}

theorem stays_all {W W' : World} (hb : Below W.heap.size W W') : ∀ {ts : List TypeId} {vs : List Value} {ds : List (DataW H)} {ps : List MemPlace},
    (∀ t ∈ ts, Try.prog.readableRec t = true ∧ t < Try.prog.types.size) → DataW.TrodAll enc Try.prog W 0 (fun _ => true) true ts vs ds ps → (∀ x ∈ ps, x.block < W.heap.size) →
    DataW.TrodAll enc Try.prog W' 0 (fun b => decide (b < W.heap.size)) true ts vs ds ps
  | [], vs, ds, ps, _, h, _ => by
    obtain ⟨rfl, rfl, rfl⟩ := trodAll_nil h
    exact trodAll_mk0
  | t :: ts, vs, ds, ps, ht, h, hp => by
    obtain ⟨v, vs', d, ds', p, q, rfl, rfl, rfl, h1, h2⟩ := trodAll_cons h
    exact trodAll_cons_mk (Below.trod Try.laidOut (ht t (List.mem_cons_self ..)).1 (ht t (List.mem_cons_self ..)).2 h1 hb (fun x hx => hp x (List.mem_append_left _ hx)))
      (stays_all hb (fun u hu => ht u (List.mem_cons_of_mem _ hu)) h2 (fun x hx => hp x (List.mem_append_right _ hx)))

/-- A LAW's END: it answers true, and of what was there nothing has turned. -/
theorem law_post {f : Func} {s : ChangeSpec} {W W' : World} {args : Array Value} {ds gs : List (DataW H)} {before : List MemPlace} (hv : s.vars = []) (hrt : f.resultTypes = #[4])
    (hs : s.fn H (ds ++ gs) = { results := [.lit (.bool true)], args := ds })
    (ht : ∀ t ∈ f.params.toList, Try.prog.readableRec t = true ∧ t < Try.prog.types.size)
    (hW : DataW.Whole enc Try.prog f.params.toList s.vars false W args.toList ds gs before) (hb : Below W.heap.size W W') :
    s.post enc Try.prog f false true false false W args (.bool true) W' := by
  have hlt := hW.lt
  have hW' := hW
  rw [hv] at hW
  obtain ⟨p, q, hA, hV, rfl, hz, hn⟩ := hW
  obtain ⟨rfl, rfl⟩ := trodVars_none hV
  rw [List.append_nil] at hlt hW' hs
  refine ⟨ds, [], p, [], p, [], hW', ?_, ?_, ?_, hb.frame _, fun h => by cases h⟩
  · rw [hrt, List.append_nil, hs]
    exact trodAll_mk1 (shut_bool Try.underlying4 true)
  · rw [List.append_nil, hs]
    exact stays_all hb ht hA hlt
  · rw [hv, List.append_nil, hs]
    rfl

theorem trod_float {P : Program} {w : World} {base : Nat} {spare : Nat → Bool} {held : Bool} {fuel : Nat} {t : TypeId} {cs : List Value} {x : DataW H × List MemPlace} {k : FloatKind} (ht : P.underlying t = some (.float k))
    (h : DataW.trod enc P w base spare held fuel t cs = some x) : ∃ n, cs = [.float k n] ∧ x = (.lit (.float k n), []) ∧ (Lit.float k n).wf = true := by
  cases fuel with
  | zero => simp [DataW.trod] at h
  | succ n =>
    unfold DataW.trod at h
    rw [ht] at h
    split at h <;> simp_all

theorem f64_lt {n : Nat} (h : (Lit.float .f64 n).wf = true) : n < 2 ^ 64 := by
  simpa [Lit.wf] using h
end
end Go.Proofs.Ytpphfoggjejpiaa
