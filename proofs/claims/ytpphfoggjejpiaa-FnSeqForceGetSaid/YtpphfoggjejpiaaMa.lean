/-
  Plain geometries as arguments: a tree of parts, read from the heap. Conditions: as each theorem states them.
-/
import Derived.Test.YtpphfoggjejpiaaKh
namespace Go.Proofs.Ytpphfoggjejpiaa
open Go.ChangeShapes Go.WideShapes Go.ChangeAt Go.RowKit Fl Go.Sort

/-- A plain geometry: kind, type, numbers, parts. -/
inductive G where
  | mk (kind dim : Int) (nums : List Nat) (kids : List G)

def gZero : G := .mk 0 0 [] []
def G.kind : G → Int | .mk k _ _ _ => k
def G.dim : G → Int | .mk _ d _ _ => d
def G.nums : G → List Nat | .mk _ _ n _ => n
def G.kids : G → List G | .mk _ _ _ l => l

/-- Its four cells. -/
def gCells (kind dim : Int) (ao : Option Addr) (n nc : Nat) (ko : Option Addr) (k kc : Nat) : List Value := [.int .i64 kind, .int .i64 dim, .slice ao n nc, .slice ko k kc]

/-- Four cells hold a geometry. -/
inductive GC (w : World) : List Value → G → Prop where
  | mk (kind dim : Int) (nums : List Nat) (kids : List G) (ao : Option Addr) (nc : Nat) (ko : Option Addr) (kc : Nat) (C : Nat → List Value) (hk : -9223372036854775808 ≤ kind ∧ kind ≤ 9223372036854775807) (hd : -9223372036854775808 ≤ dim ∧ dim ≤ 9223372036854775807)
      (hf : FsSl w ao nums) (hw : ∀ x ∈ nums, x < 2 ^ 64) (hcap : nums.length ≤ nc ∧ (ao = none → nc = 0))
      (hc : 0 < kids.length → ∃ b off, ko = some ⟨b, off, none⟩ ∧ b < w.heap.size ∧ ∀ i, i < kids.length → ∀ j, j < 4 → w.cell? ⟨b, off + i * 4 + j, none⟩ = (C i)[j]?)
      (hg : ∀ i, i < kids.length → GC w (C i) (kids[i]?.getD gZero)) : GC w (gCells kind dim ao nums.length nc ko kids.length kc) (.mk kind dim nums kids)

theorem GC.keep {w w' : World} {cs : List Value} {g : G} (h : GC w cs g) (hb : Below w.heap.size w w') : GC w' cs g := by
  induction h with
  | mk kind dim nums kids ao nc ko kc C hk hd hf hw hcap hc hg ih =>
    refine .mk kind dim nums kids ao nc ko kc C hk hd (hf.below hb) hw hcap (fun h0 => ?_) ih
    obtain ⟨b, off, h1, h2, h3⟩ := hc h0
    refine ⟨b, off, h1, Nat.lt_of_lt_of_le h2 hb.size, fun i hi j hj => ?_⟩
    rw [hb.cell (p := ⟨b, off + i * 4 + j, none⟩) h2]
    exact h3 i hi j hj

theorem GC.four {w : World} {cs : List Value} {g : G} (h : GC w cs g) : ∃ c0 c1 c2 c3, cs = [c0, c1, c2, c3] := by
  cases h
  exact ⟨_, _, _, _, rfl⟩

section
variable {H : Type} {enc : TypeId × Value → H} {w : World} {base b0 : Nat} {spare : Nat → Bool} {held : Bool} {v : Value} {d : DataW H} {ps : List MemPlace} {r : Reach}

theorem cellsGeom : Try.prog.cellsOf 70 = 4 := by kernel_rfl

theorem i64_wf {n : Int} (h : (Lit.int .i64 n).wf = true) : -9223372036854775808 ≤ n ∧ n ≤ 9223372036854775807 := by
  simpa [Lit.wf, IntKind.min, IntKind.max, IntKind.signed, IntKind.bits] using h

set_option maxRecDepth 100000 in
theorem open_fsC {fuel : Nat} {c : Value} {x : DataW H × List MemPlace} (h : DataW.trod enc Try.prog w base spare held fuel 67 [c] = some x) :
    ∃ (ao : Option Addr) (cap : Nat) (l : List Nat), c = .slice ao l.length cap ∧ FsSl w ao l ∧ (∀ x ∈ l, x < 2 ^ 64) ∧ (l.length ≤ cap ∧ (ao = none → cap = 0)) := by
  rcases Go.Deep.open_slice Try.underlying67 h with ⟨hcs, _⟩ | ⟨a, len, cap, m, n, D, Pl, hcs, _, hl, hcm, hm, _, hel⟩
  · simp only [List.cons.injEq, and_true] at hcs
    exact ⟨none, 0, [], hcs, (fun h => absurd h (by simp)), by simp, by simp, fun _ => rfl⟩
  · simp only [List.cons.injEq, and_true] at hcs
    have hlm : len ≤ m := by rw [hm]; split <;> omega
    have hpt : ∀ i, i < len → ∃ p : Nat, w.cell? (a.add i) = some (.float .f64 p) ∧ p < 2 ^ 64 := by
      intro i hi
      obtain ⟨cs', h1, h2⟩ := hel i (by omega)
      rw [show Try.prog.cellsOf 22 = 1 by kernel_rfl] at h1
      obtain ⟨_, hlen, hc⟩ := World.cells?_some h1
      match cs', hlen with
      | [c0], _ =>
        obtain ⟨x, f0, _, wx⟩ := trod_float Try.underlying22 h2
        simp only [List.cons.injEq, and_true] at f0
        subst f0
        refine ⟨x, ?_, f64_lt wx⟩
        have := hc 0 (by omega)
        rw [Nat.mul_one] at this
        have e0 : (a.add i).add 0 = a.add i := by unfold Addr.add; split <;> simp_all
        rw [e0] at this
        exact this
    obtain ⟨l, hll, hl2⟩ := list_of 0 len hpt
    have hwl : ∀ p ∈ l, p < 2 ^ 64 := by
      intro p hp
      obtain ⟨i, hi, rfl⟩ := List.mem_iff_getElem.1 hp
      have := (hl2 i (by omega)).2
      simpa [List.getElem?_eq_getElem hi] using this
    refine ⟨some a, cap, l, by rw [hll]; exact hcs, fun h0 => ?_, hwl, by rw [hll]; exact hl, fun h => by cases h⟩
    obtain ⟨b, off, spot⟩ := a
    have hspot : spot = none := by
      have := (hl2 0 (by omega)).1
      simpa [Addr.add] using World.cell?_spot this
    subst hspot
    refine ⟨b, off, rfl, ?_, fun i hi => ?_⟩
    · have := (hl2 0 (by omega)).1
      rw [show (⟨b, off, none⟩ : Addr).add 0 = ⟨b, off + 0, none⟩ from rfl] at this
      exact World.block_lt_of_cell? w _ this
    · have := (hl2 i (by omega)).1
      rw [addr_off] at this
      exact this

set_option maxRecDepth 100000 in
/-- Four cells that are read as a geometry hold one. -/
theorem open_gc : ∀ (fuel : Nat) (cs : List Value) (x : DataW H × List MemPlace), DataW.trod enc Try.prog w base spare held fuel 70 cs = some x → ∃ g, GC w cs g := by
  intro fuel
  induction fuel using Nat.strongRecOn with
  | _ fuel ih =>
    intro cs x h
    obtain ⟨xs, n, hfn, _, hl, hlen, hff⟩ := DataW.trod_struct Try.underlying70 h
    rw [cellsGeom] at hl
    match xs, hlen, cs, hl with
    | [y0, y1, y2, y3], _, [c0, c1, c2, c3], _ =>
      have g0 := hff 0 _ rfl
      have g1 := hff 1 _ rfl
      have g2 := hff 2 _ rfl
      have g3 := hff 3 _ rfl
      simp only [show Try.prog.cellsOf 3 = 1 by kernel_rfl, show Try.prog.cellsOf 67 = 1 by kernel_rfl, show Try.prog.cellsOf 68 = 1 by kernel_rfl, List.getElem_toArray, List.getElem_cons_zero, List.getElem_cons_succ, List.drop_zero, List.take_succ_cons, List.take_zero, List.drop_succ_cons, List.getElem?_cons_zero, List.getElem?_cons_succ] at g0 g1 g2 g3
      obtain ⟨kind, e0, _, w0⟩ := DataW.trod_int Try.underlying3 g0
      obtain ⟨dim, e1, _, w1⟩ := DataW.trod_int Try.underlying3 g1
      simp only [List.cons.injEq, and_true] at e0 e1
      subst e0 e1
      obtain ⟨ao, nc, nums, rfl, hfs, hwf, hcap⟩ := open_fsC g2
      rcases DataW.trod_slice Try.underlying68 g3 with ⟨hcs, _⟩ | ⟨a, len, cap, elems, rest, n', hn', hcs, _, _, hlc, _, hle, hel, _, _⟩
      · simp only [List.cons.injEq, and_true] at hcs
        subst hcs
        exact ⟨.mk kind dim nums [], .mk kind dim nums [] ao nc none 0 (fun _ => []) (i64_wf w0) (i64_wf w1) hfs hwf hcap (fun h => absurd h (by simp)) (fun i hi => absurd hi (by simp))⟩
      · simp only [List.cons.injEq, and_true] at hcs
        subst hcs
        have hkid : ∀ i, i < len → ∃ p : List Value × G, (∀ j, j < 4 → w.cell? ((a.add (i * 4)).add j) = p.1[j]?) ∧ GC w p.1 p.2 := by
          intro i hi
          have h1 := hel i hi
          rw [cellsGeom, List.getElem?_eq_getElem (by omega)] at h1
          obtain ⟨cs', h2, h3⟩ := Option.bind_eq_some_iff.1 h1
          obtain ⟨g, hg⟩ := ih n' (by omega) cs' _ h3
          obtain ⟨_, hlen4, hc⟩ := World.cells?_some h2
          refine ⟨(cs', g), fun j hj => ?_, hg⟩
          rw [hc j (by omega)]
          first | done | simp [hlen4, hj]
        obtain ⟨l, hll, hl2⟩ := list_of (([], gZero) : List Value × G) len hkid
        have hsn : ∀ i : Nat, (l.map (·.2))[i]?.getD gZero = (l[i]?.getD (([], gZero) : List Value × G)).2 := by
          intro i
          rw [List.getElem?_map]
          cases l[i]? <;> rfl
        refine ⟨.mk kind dim nums (l.map (·.2)), ?_⟩
        have hmk := GC.mk (w := w) kind dim nums (l.map (·.2)) ao nc (some a) cap (fun i => (l[i]?.getD ([], gZero)).1) (i64_wf w0) (i64_wf w1) hfs hwf hcap ?_ ?_
        · rw [List.length_map, hll] at hmk
          exact hmk
        · intro h0
          rw [List.length_map, hll] at h0
          obtain ⟨b, off, spot⟩ := a
          have hspot : spot = none := by
            have hz := (hl2 0 h0).1 0 (by omega)
            obtain ⟨c0, c1, c2, c3, he⟩ := (hl2 0 h0).2.four
            rw [he] at hz
            simpa [Addr.add] using World.cell?_spot hz
          subst hspot
          refine ⟨b, off, rfl, ?_, fun i hi j hj => ?_⟩
          · have hz := (hl2 0 h0).1 0 (by omega)
            obtain ⟨c0, c1, c2, c3, he⟩ := (hl2 0 h0).2.four
            rw [he, addr_off, addr_off] at hz
            exact World.block_lt_of_cell? w _ hz
          · rw [List.length_map, hll] at hi
            have hz := (hl2 i hi).1 j hj
            rw [addr_off, addr_off] at hz
            exact hz
        · intro i hi
          rw [List.length_map, hll] at hi
          rw [hsn]
          exact (hl2 i hi).2

set_option maxRecDepth 100000 in
/-- A geometry as an argument. -/
theorem open_geom (hval : Value.okWide Try.prog w r b0 70 v) (h : DataW.Trod enc Try.prog w base spare held 70 v d ps) : ∃ (cs : List Value) (g : G), v = .agg cs.toArray ∧ GC w cs g := by
  obtain ⟨cs, rfl, hsz⟩ := okWide_struct Try.underlying70 hval
  obtain ⟨fuel, hf⟩ := h
  obtain ⟨g, hg⟩ := open_gc fuel _ _ hf
  exact ⟨cs.toList, g, by simp, hg⟩
end
end Go.Proofs.Ytpphfoggjejpiaa
