/-
  FnReadUvarint: a number at the beginning of up to 2000 bytes is read as the reference reads it: the law answers true for every input. Conditions: none.
-/
import Derived.Test.YtpphfoggjejpiaaFr
import Derived.Test.YtpphfoggjejpiaaUd
namespace Go.Proofs.Ytpphfoggjejpiaa.fnReadUvarint
open Go.ChangeShapes Go.WideShapes Go.ChangeAt Go.RowKit

theorem cells : Try.prog.cellsOf 5 = 1 := by kernel_rfl
theorem readable : ∀ t ∈ Try.f4.params.toList, Try.prog.readableRec t = true ∧ t < Try.prog.types.size := by
  intro t ht
  have e : Try.f4.params.toList = [28] := rfl
  rw [e] at ht
  simp only [List.mem_cons, List.not_mem_nil, or_false] at ht
  subst ht
  exact ⟨by kernel_rfl, of_decide_eq_true (by kernel_rfl)⟩

theorem u8_range {n : Int} (h : (Lit.int .u8 n).wf = true) : 0 ≤ n ∧ n ≤ 255 := by
  simpa [Lit.wf, IntKind.min, IntKind.max, IntKind.signed, IntKind.bits] using h

/-- The slice as it came in, as bytes. -/
theorem slice_is {w : World} {a : Addr} {len cap : Nat} {zs : List Int} (hl : len ≤ cap) (hz : zs.length = cap)
    (hc : ∀ i, i < zs.length → w.cell? (a.add i) = some (.int .u8 (zs.getD i 0))) (hw : ∀ n ∈ zs, (Lit.int .u8 n).wf = true) :
    ∃ l : List Nat, l.length = len ∧ (∀ x ∈ l, x < 256) ∧ SliceIs w (.slice (some a) len cap) l := by
  refine ⟨(zs.take len).map Int.toNat, by simp; omega, ?_, ?_⟩
  · intro x hx
    simp only [List.mem_map] at hx
    obtain ⟨n, hn, rfl⟩ := hx
    have := u8_range (hw n (List.mem_of_mem_take hn))
    omega
  · by_cases h0 : cap = 0
    · right
      have : len = 0 := by omega
      subst h0 this
      exact ⟨⟨_, rfl⟩, by simp⟩
    · left
      obtain ⟨b, off, rfl, hc'⟩ := ints_at hc (by omega)
      refine ⟨b, off, cap, by simp; omega, by simp; omega, World.block_lt_of_cell? w _ (hc' 0 (by omega)), ?_⟩
      intro i hi
      have hi' : i < len := by simp at hi; omega
      rw [hc' i (by omega)]
      have hm : zs[i]? = some (zs[i]'(by omega)) := List.getElem?_eq_getElem (by omega)
      have hr := u8_range (hw (zs[i]'(by omega)) (List.getElem_mem _))
      simp only [List.getElem?_map, List.getElem?_take_of_lt hi', List.getD_eq_getElem?_getD, hm, Option.map_some, Option.getD_some]
      congr 2; omega

set_option maxRecDepth 100000 in
theorem lifted (os : Os) (started : os.Started) (H : Type) (enc : TypeId × Value → H) :
    ReturnsInHanded {} Try.checked os 4 .any (Rows.fnReadUvarintSpec.pre6 enc Try.prog Try.f4 Rows.fnReadUvarintRow.domain false) (Rows.fnReadUvarintSpec.post enc Try.prog Try.f4 false true false false) := by
  refine returnsInHanded_of_change (C := Try.checked) Try.own started (by kernel_rfl) Try.func4
    (ChangeSpec.witness6 (enc := enc) (C := Try.checked) false ⟨#[], #[.slice none 0 0], []⟩ 8 (by kernel_rfl) (by kernel_rfl) (by kernel_rfl) (by kernel_rfl)) ?_
  intro W base args ds gs before hval0 hW _ _
  have hval : ∀ (j : Nat) t v, Try.f4.params[j]? = some t → args[j]? = some v → Value.okWide Try.prog W .any base t v := hval0
  have hW' := hW
  obtain ⟨p, q, hA0, hV, rfl, _, _⟩ := hW
  have hA : DataW.TrodAll enc Try.prog W 0 (fun _ => true) true Try.f4.params.toList args.toList ds p := hA0
  rw [Try.params4] at hA hval
  obtain ⟨v0, d0, rfl, rfl, h0⟩ := trodAll_one hA
  obtain ⟨rfl, rfl⟩ := trodVars_none hV
  obtain ⟨a0, len, cap, rfl⟩ := okWide_slice Try.underlying28 (hval 0 28 v0 rfl rfl)
  obtain ⟨fuel, hf⟩ := h0
  have fin : ∀ ao n c, (∃ l : List Nat, l.length = n ∧ (∀ x ∈ l, x < 256) ∧ SliceIs W (.slice ao n c) l) → Calls Try.prog 4 #[.slice ao n c] W fun e w' => e = .returned (.bool true) ∧ Below W.heap.size W w' := by
    rintro ao n c ⟨l, hn, hb, hs⟩
    by_cases hbig : n ≤ 2000
    · exact law_small ao n c l hn.symm (by omega) hb W hs
    · exact law_big ao n c (by omega) W
  have hsl : ∃ l : List Nat, l.length = len ∧ (∀ x ∈ l, x < 256) ∧ SliceIs W (.slice a0 len cap) l := by
    rcases open_ints Try.underlying28 Try.underlying5 cells hf with ⟨hcs, _⟩ | ⟨a, len', cap', zs, hcs, _, hl, _, hz, _, hcell, hwz⟩
    · simp only [Value.cells, List.cons.injEq, Value.slice.injEq, and_true] at hcs
      obtain ⟨rfl, rfl, rfl⟩ := hcs
      exact ⟨[], rfl, by simp, .inr ⟨⟨_, rfl⟩, rfl⟩⟩
    · simp only [Value.cells, List.cons.injEq, Value.slice.injEq, and_true] at hcs
      obtain ⟨rfl, rfl, rfl⟩ := hcs
      exact slice_is hl (by simpa using hz) hcell hwz
  refine (fin _ _ _ hsl).mono fun e W' ⟨he, hb⟩ => ?_
  subst he
  exact ⟨_, rfl, law_post rfl rfl rfl readable hW' hb⟩

theorem holds : Rows.FnReadUvarintSaid :=
  OpenClaim.holds_of_wide 4 Try.f4 rfl rfl rfl rfl rfl rfl rfl ⟨rfl, rfl, rfl, rfl, rfl⟩ rfl rfl rfl rfl rfl (by kernel_rfl) Try.func4 (by kernel_rfl)
    (of_decide_eq_true (by kernel_rfl)) (by unfold Func.isWrapper; rw [if_neg (of_decide_eq_false (by kernel_rfl))]; exact ⟨rfl, rfl⟩)
    (fun os started H enc _ => lifted os started H enc)

#print axioms holds
end Go.Proofs.Ytpphfoggjejpiaa.fnReadUvarint
