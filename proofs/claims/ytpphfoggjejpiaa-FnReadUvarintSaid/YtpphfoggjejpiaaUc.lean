/-
  The walks from the law's reader of a number down to the library's, continued. Conditions: at most 2000 bytes.
-/
import Derived.Test.YtpphfoggjejpiaaUb
import Derived.BigQuiet
namespace Go.Proofs.Ytpphfoggjejpiaa
open Go.RowKit

def SomeErr (w : World) (e : Ending) (w' : World) : Prop := (∃ t v, e = .returned (.iface t v)) ∧ Below w.heap.size w w'

theorem errNew_any (s : ByteArray) (w : World) : Calls Try.prog 167 #[.string s] w (SomeErr w) := by
  go_enter Try.func167, Try.ntmps167
  go_wp2
  go_ret
  exact ⟨⟨_, _, rfl⟩, (Below.refl _ _).alloc (Nat.le_refl _) _⟩

/-- What the parser's reader leaves: a number and the new place, or an error. -/
def ParEnd (l : List Nat) (pb : Nat) (w : World) (e : Ending) (w' : World) : Prop :=
  Below pb w w' ∧
  ((0 < (uvR l (l.length + 1) 0 0).2 ∧ e = .returned (.tuple #[.int .u64 (uvR l (l.length + 1) 0 0).1, .nilIface]) ∧ w'.cell? ⟨pb, 1, none⟩ = some (.int .i64 (uvR l (l.length + 1) 0 0).2)) ∨
   ((uvR l (l.length + 1) 0 0).2 ≤ 0 ∧ (∃ t v, e = .returned (.tuple #[.int .u64 0, .iface t v])) ∧ w'.cell? ⟨pb, 1, none⟩ = some (.int .i64 0)))

theorem uvR_hi (l : List Nat) : ∀ (f k : Nat) (X : Int), k ≤ 10 → (uvR l f k X).2 ≤ 10
  | 0, _, _, _ => by simp [uvR]
  | f + 1, k, X, hk => by
    unfold uvR
    split
    · split
      · simp; omega
      · split
        · split
          · simp; omega
          · simp; omega
        · exact uvR_hi l f (k + 1) _ (by omega)
    · simp

theorem BytesAt.below {w w' : World} {b off : Nat} {l : List Nat} (h : BytesAt w b off l) (hb : Below w.heap.size w w') (hlt : b < w.heap.size) : BytesAt w' b off l := fun i hi => by
  rw [hb.cell (p := ⟨b, off + i, none⟩) hlt]; exact h i hi

theorem parse_any (pb b off cap : Nat) (l : List Nat) (hl : l.length ≤ 2000) (hcap : l.length ≤ cap) (hb : ∀ x ∈ l, x < 256) (w : World) (hbw : b < pb) (hpw : pb < w.heap.size) (hc : BytesAt w b off l)
    (h0 : w.cell? ⟨pb, 0, none⟩ = some (.slice (some ⟨b, off, none⟩) l.length cap)) (h1 : w.cell? ⟨pb, 1, none⟩ = some (.int .i64 0)) (hfz : w.frozen? ⟨pb, 1, none⟩ = false) :
    Calls Try.prog 115 #[.pointer (some ⟨pb, 0, none⟩)] w (ParEnd l pb w) := by
  have hc' := Lib.hid hc
  have hb' := Lib.hid hb
  clear hc hb
  have hcapI : (l.length : Int) ≤ cap := by omega
  go_enter Try.func115, Try.ntmps115
  go_wp2_with fail
  refine wp_region_gr (by kernel_rfl) (by kernel_rfl) ?_
  repeat (first | go_big_quiet_step (exact Calls.gr_of_same (uvarint_any b off cap l hl hb'.out _ (hc'.out.below (gr_below _ _) (by omega)))) | quiet_step (exact Calls.gr_of_same (uvarint_any b off cap l hl hb'.out _ (hc'.out.below (gr_below _ _) (by omega)))))
  refine wpQuiet_nil ?_
  intro _ hw'
  obtain ⟨q, hw''⟩ := hw'
  subst hw''
  have hN := Lib.hid (uvR_hi l (l.length + 1) 0 0 (by omega))
  obtain ⟨N, hNe⟩ : ∃ N, N = (uvR l (l.length + 1) 0 0).2 := ⟨_, rfl⟩
  obtain ⟨V, hVe⟩ : ∃ V, V = (uvR l (l.length + 1) 0 0).1 := ⟨_, rfl⟩
  have hNV := Lib.hid (And.intro hNe hVe)
  rw [← hNe, ← hVe]
  have hN2 : N ≤ 10 := by rw [hNe]; exact hN.out
  clear hNe hVe
  have hpb : pb ≤ w.heap.size := Nat.le_of_lt hpw
  have hcell : (gr w q).cell? ⟨pb, 1, none⟩ = some (.int .i64 0) := by rw [gr_cell _ _ _ _ hpw]; exact h1
  have fin : ∀ (t : TypeId) (v : Value) (w2 : World), N ≤ 0 → Below (gr w q).heap.size (gr w q) w2 → ParEnd l pb w (.returned (.tuple #[.int .u64 0, .iface t v])) w2 := fun t v w2 hn hbl =>
    ⟨((gr_below w q).mono hpb).trans (hbl.mono (by simp [go_sem]; omega)), .inr ⟨by rw [← hNV.out.1]; exact hn, ⟨t, v, rfl⟩, by rw [hbl.cell (p := ⟨pb, 1, none⟩) (by simp [go_sem]; omega)]; exact hcell⟩⟩
  have hfin := Lib.hid fin
  have hcl := Lib.hid hcell
  clear fin hcell
  rcases Int.lt_trichotomy N 0 with hz | hz | hz
  · go_wp2_with (go_at_call 167; refine (errNew_any _ _).mono ?_; rintro e w' ⟨⟨t, v, rfl⟩, hbl⟩)
    go_ret2
    exact hfin.out _ _ _ (by omega) hbl
  · subst hz
    go_wp2_with (go_at_call 167; refine (errNew_any _ _).mono ?_; rintro e w' ⟨⟨t, v, rfl⟩, hbl⟩)
    go_ret2
    exact hfin.out _ _ _ (by omega) hbl
  · go_wp2
    go_ret2
    refine ⟨((gr_below w q).mono hpb).trans (Below.setCell (p := ⟨pb, 1, none⟩) (Below.refl pb _) (Nat.le_refl pb) _), .inl ⟨by rw [← hNV.out.1]; exact hz, by rw [← hNV.out.2]; rfl, ?_⟩⟩
    rw [← hNV.out.1]
    exact World.cell?_setCell_same _ _ _ hcl.out

theorem uvarint_nil (ao : Option Addr) (w : World) :
    Calls Try.prog 166 #[.slice ao 0 0] w fun e w' => e = .returned (.tuple #[.int .u64 0, .int .i64 0]) ∧ w = w' := by
  go_enter Try.func166, Try.ntmps166
  go_wp2
  go_loop [4, 5, 10] (fun x s i => x = .int .u64 0 ∧ s = .int .u64 0 ∧ i = .int .i64 0) (fun _ _ _ => 0)
  case atStart => exact ⟨rfl, rfl, rfl⟩
  case round =>
    obtain ⟨rfl, rfl, rfl⟩ := hrel
    go_wp2
    go_ret2
    exact ⟨rfl, rfl⟩

theorem parse_nil (ao : Option Addr) (pb : Nat) (w : World) (hpw : pb < w.heap.size)
    (h0 : w.cell? ⟨pb, 0, none⟩ = some (.slice ao 0 0)) (h1 : w.cell? ⟨pb, 1, none⟩ = some (.int .i64 0)) :
    Calls Try.prog 115 #[.pointer (some ⟨pb, 0, none⟩)] w (ParEnd [] pb w) := by
  cases ao <;>
  (go_enter Try.func115, Try.ntmps115
   go_wp2_with fail
   refine wp_region_gr (by kernel_rfl) (by kernel_rfl) ?_
   repeat (first | go_big_quiet_step (exact Calls.gr_of_same (uvarint_nil _ _)) | quiet_step (exact Calls.gr_of_same (uvarint_nil _ _)))
   refine wpQuiet_nil ?_
   intro _ hw'
   obtain ⟨q, hw''⟩ := hw'
   subst hw''
   have hpb : pb ≤ w.heap.size := Nat.le_of_lt hpw
   have hcell : (gr w q).cell? ⟨pb, 1, none⟩ = some (.int .i64 0) := by rw [gr_cell _ _ _ _ hpw]; exact h1
   have hcl := Lib.hid hcell
   clear hcell
   go_wp2_with (go_at_call 167; refine (errNew_any _ _).mono ?_; rintro e w' ⟨⟨t, v, rfl⟩, hbl⟩)
   go_ret2
   exact ⟨((gr_below w q).mono hpb).trans (hbl.mono (by simp [go_sem]; omega)), .inr ⟨by decide, ⟨t, v, rfl⟩, by rw [hbl.cell (p := ⟨pb, 1, none⟩) (by simp [go_sem]; omega)]; exact hcl.out⟩⟩)

/-- The bytes of a slice: at an address, or none and no address. -/
def SliceIs (w : World) (s : Value) (l : List Nat) : Prop :=
  (∃ b off cap, s = .slice (some ⟨b, off, none⟩) l.length cap ∧ l.length ≤ cap ∧ b < w.heap.size ∧ BytesAt w b off l) ∨ ((∃ ao, s = .slice ao 0 0) ∧ l = [])

theorem parse_slice (s : Value) (pb : Nat) (l : List Nat) (hl : l.length ≤ 2000) (hb : ∀ x ∈ l, x < 256) (w w0 : World) (hs : SliceIs w0 s l) (hpb : w0.heap.size ≤ pb) (hbl : Below w0.heap.size w0 w) (hpw : pb < w.heap.size)
    (h0 : w.cell? ⟨pb, 0, none⟩ = some s) (h1 : w.cell? ⟨pb, 1, none⟩ = some (.int .i64 0)) (hfz : w.frozen? ⟨pb, 1, none⟩ = false) :
    Calls Try.prog 115 #[.pointer (some ⟨pb, 0, none⟩)] w (ParEnd l pb w) := by
  rcases hs with ⟨b, off, cap, rfl, hcap, hbw, hby⟩ | ⟨⟨ao, rfl⟩, rfl⟩
  · exact parse_any pb b off cap l hl hcap hb w (by omega) hpw (hby.below hbl hbw) h0 h1 hfz
  · exact parse_nil ao pb w hpw h0 h1

/-- What the door gives: a number and how many bytes, or an error. -/
def DoorEnd (l : List Nat) (w : World) (e : Ending) (w' : World) : Prop :=
  Below w.heap.size w w' ∧
  ((0 < (uvR l (l.length + 1) 0 0).2 ∧ e = .returned (.tuple #[.int .u64 (uvR l (l.length + 1) 0 0).1, .int .i64 (uvR l (l.length + 1) 0 0).2, .nilIface])) ∨
   ((uvR l (l.length + 1) 0 0).2 ≤ 0 ∧ ∃ t v, e = .returned (.tuple #[.int .u64 0, .int .i64 0, .iface t v])))

set_option maxRecDepth 100000 in
theorem door_any (ao : Option Addr) (n cap : Nat) (l : List Nat) (hl : l.length ≤ 2000) (hb : ∀ x ∈ l, x < 256) (w : World) (hs : SliceIs w (.slice ao n cap) l) :
    Calls Try.prog 65 #[.slice ao n cap] w (DoorEnd l w) := by
  have H := Lib.hid (And.intro hl (And.intro hb hs))
  clear hl hb hs
  go_enter Try.func65, Try.ntmps65
  go_wp2_with fail
  refine (newParser_any _ _ _ _).mono ?_
  rintro e w1 ⟨rfl, hb1⟩
  have hb1' := Lib.hid hb1
  clear hb1
  go_wp2_with (first | (refine wpList_run (op := { dst := some 5, op := .alloc _, type := _, pos := _, after := _, guard := _ }) rfl (.pointer (some ⟨w1.heap.size, 0, none⟩)) (w1.alloc (.cells parserZero.toArray 177)) (by kernel_rfl) ?_) | refine wpList_store_new rfl 177 _ _ rfl parserZero.toArray (parserCells (.slice ao n cap) 0).toArray rfl rfl parser_info rfl (parser_one _ _ _ _) ?_)
  have hsz : w.heap.size ≤ w1.heap.size := hb1'.out.size
  have e0 : (w1.alloc (.cells (parserCells (.slice ao n cap) 0).toArray 177)).cell? ⟨w1.heap.size, 0, none⟩ = some (.slice ao n cap) := range_new w1 (parserCells (.slice ao n cap) 0).toArray 177 0 _ rfl
  have e1 : (w1.alloc (.cells (parserCells (.slice ao n cap) 0).toArray 177)).cell? ⟨w1.heap.size, 1, none⟩ = some (.int .i64 0) := range_new w1 (parserCells (.slice ao n cap) 0).toArray 177 1 _ rfl
  refine (parse_slice (.slice ao n cap) w1.heap.size l H.out.1 H.out.2.1 _ w H.out.2.2 hsz (hb1'.out.alloc hsz _) (by simp) e0 e1 (World.frozen?_alloc_at _ _ _ _ rfl)).mono ?_
  clear e0 e1
  rintro e w2 ⟨hb2, ⟨hpos, rfl, hcell⟩ | ⟨hneg, ⟨t, v, rfl⟩, hcell⟩⟩
  · have hb3 := Lib.hid (hb1'.out.trans (((Below.refl w1.heap.size w1).alloc (Nat.le_refl _) (.cells (parserCells (.slice ao n cap) 0).toArray 177)).trans hb2 |>.mono hsz))
    clear hb2
    obtain ⟨N, hN⟩ : ∃ N, N = (uvR l (l.length + 1) 0 0).2 := ⟨_, rfl⟩
    obtain ⟨V, hV⟩ : ∃ V, V = (uvR l (l.length + 1) 0 0).1 := ⟨_, rfl⟩
    rw [← hN] at hcell hpos
    have HNV := Lib.hid (And.intro hN (And.intro hV hpos))
    rw [← hV]
    clear hN hV hpos
    go_wp2_with fail
    go_quiet (fail)
    go_wp2
    go_ret3
    exact ⟨below_drewN hb3.out _, .inl ⟨by rw [← HNV.out.1]; exact HNV.out.2.2, by rw [← HNV.out.1, ← HNV.out.2.1]; rfl⟩⟩
  · have hb3 := Lib.hid (hb1'.out.trans (((Below.refl w1.heap.size w1).alloc (Nat.le_refl _) (.cells (parserCells (.slice ao n cap) 0).toArray 177)).trans hb2 |>.mono hsz))
    have hneg' := Lib.hid hneg
    clear hb2 hneg
    go_wp2_with fail
    go_quiet (fail)
    go_wp2
    go_ret3
    exact ⟨below_drewN hb3.out _, .inr ⟨hneg'.out, t, v, rfl⟩⟩

/-- What the thin package gives. -/
def ReadEnd (l : List Nat) (w : World) (e : Ending) (w' : World) : Prop :=
  Below w.heap.size w w' ∧
  ((0 < (uvR l (l.length + 1) 0 0).2 ∧ e = .returned (.tuple #[.int .u64 (uvR l (l.length + 1) 0 0).1, .int .i64 (uvR l (l.length + 1) 0 0).2, .bool true])) ∨
   ((uvR l (l.length + 1) 0 0).2 ≤ 0 ∧ e = .returned (.tuple #[.int .u64 0, .int .i64 0, .bool false])))

theorem read_any (ao : Option Addr) (n cap : Nat) (l : List Nat) (hl : l.length ≤ 2000) (hb : ∀ x ∈ l, x < 256) (w : World) (hs : SliceIs w (.slice ao n cap) l) :
    Calls Try.prog 17 #[.slice ao n cap] w (ReadEnd l w) := by
  have H := Lib.hid (And.intro hl (And.intro hb hs))
  clear hl hb hs
  go_enter Try.func17, Try.ntmps17
  go_wp2_with fail
  refine (door_any _ _ _ l H.out.1 H.out.2.1 _ H.out.2.2).mono ?_
  rintro e w2 ⟨hb2, ⟨hpos, rfl⟩ | ⟨hneg, ⟨t, v, rfl⟩⟩⟩
  · have hb3 := Lib.hid hb2
    have hp := Lib.hid hpos
    clear hb2 hpos
    go_wp2_with fail
    go_quiet (fail)
    go_wp2
    go_ret3
    exact ⟨below_drewN hb3.out _, .inl ⟨hp.out, rfl⟩⟩
  · have hb3 := Lib.hid hb2
    have hp := Lib.hid hneg
    clear hb2 hneg
    go_wp2_with fail
    go_quiet (fail)
    go_wp2
    go_ret3
    exact ⟨below_drewN hb3.out _, .inr ⟨hp.out, rfl⟩⟩
end Go.Proofs.Ytpphfoggjejpiaa
