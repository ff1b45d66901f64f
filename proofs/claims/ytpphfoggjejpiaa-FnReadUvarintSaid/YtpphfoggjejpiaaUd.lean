/-
  The walk over the reference's reader of a number, and that both readers agree. Conditions: at most 2000 bytes.
-/
import Derived.Test.YtpphfoggjejpiaaUc
namespace Go.Proofs.Ytpphfoggjejpiaa
open Go.RowKit

/-- What the reference gives from place k on, X read so far. -/
def pvR (l : List Nat) : Nat → Nat → Int → Int × Int × Bool
  | 0, _, _ => (0, 0, false)
  | f + 1, k, X =>
    if k < l.length ∧ k < 10 then
      if k = 9 ∧ 1 < l[k]?.getD 0 then (0, 0, false)
      else if l[k]?.getD 0 < 128 then (orB X (l[k]?.getD 0) k, (k : Int) + 1, true)
      else pvR l f (k + 1) (orB X (l[k]?.getD 0) k)
    else (0, 0, false)

theorem uvR_ten (l : List Nat) (f : Nat) (X : Int) : (uvR l f 10 X).2 ≤ 0 := by
  cases f with
  | zero => simp [uvR]
  | succ f =>
    unfold uvR
    split
    · simp
    · simp

theorem pv_uv (l : List Nat) : ∀ (f k : Nat) (X : Int), k ≤ 10 → pvR l f k X = if 0 < (uvR l f k X).2 then ((uvR l f k X).1, (uvR l f k X).2, true) else (0, 0, false)
  | 0, _, _, _ => by simp [pvR, uvR]
  | f + 1, k, X, hk => by
    unfold pvR uvR
    by_cases h1 : k < l.length
    · rw [if_pos h1]
      by_cases h2 : k = 10
      · subst h2
        rw [if_neg (by omega), if_pos rfl, if_neg (by simp)]
      · rw [if_pos ⟨h1, by omega⟩, if_neg h2]
        by_cases h3 : l[k]?.getD 0 < 128
        · rw [if_pos h3, if_pos h3]
          by_cases h4 : k = 9 ∧ 1 < l[k]?.getD 0
          · rw [if_pos h4, if_pos h4, if_neg (by show ¬ (0 : Int) < -((k : Int) + 1); omega)]
          · rw [if_neg h4, if_neg h4, if_pos (by show (0 : Int) < (k : Int) + 1; omega)]
        · rw [if_neg h3, if_neg h3]
          by_cases h4 : k = 9
          · subst h4
            rw [if_pos ⟨rfl, by omega⟩, if_neg (by have := uvR_ten l f (orB X (l[9]?.getD 0) 9); show ¬ 0 < (uvR l f 10 _).2; omega)]
          · rw [if_neg (fun h => h4 h.1), pv_uv l f (k + 1) _ (by omega)]
    · rw [if_neg (fun h => h1 h.1), if_neg h1, if_neg (by simp)]

theorem orB_sixty (X : Int) (v : Nat) : orB X v 9 = bits .or .u64 X (IntKind.u64.wrap (IntKind.u64.wrap (bits .and .u8 (v : Int) 127) * 9223372036854775808)) := by
  have e : (2 : Int) ^ (7 * 9) = 9223372036854775808 := by decide
  unfold orB; rw [e]

def Pend (l : List Nat) (w : World) (e : Ending) (w' : World) : Prop := e = .returned (.tuple #[.int .u64 (pvR l (l.length + 1) 0 0).1, .int .i64 (pvR l (l.length + 1) 0 0).2.1, .bool (pvR l (l.length + 1) 0 0).2.2]) ∧ w = w'

theorem pend {l : List Nat} {w : World} {f k : Nat} {X : Int} (hR : pvR l f k X = pvR l (l.length + 1) 0 0) {v n : Int} {b : Bool} (h : pvR l f k X = (v, n, b)) : Pend l w (.returned (.tuple #[.int .u64 v, .int .i64 n, .bool b])) w := by
  unfold Pend; rw [← hR, h]; exact ⟨rfl, rfl⟩

set_option maxRecDepth 100000 in
set_option maxHeartbeats 400000 in
theorem pvarint_any (b off cap : Nat) (l : List Nat) (hl : l.length ≤ 2000) (hb : ∀ x ∈ l, x < 256) (w : World) (hc : BytesAt w b off l) :
    Calls Try.prog 18 #[.slice (some ⟨b, off, none⟩) l.length cap] w (Pend l w) := by
  have hc' := Lib.hid hc
  have hb' := Lib.hid hb
  clear hc hb
  go_enter Try.func18, Try.ntmps18
  go_wp2
  go_loop [2, 5] (fun x i => ∃ (k : Nat) (X : Int), k ≤ l.length ∧ k ≤ 10 ∧ i = .int .i64 k ∧ x = .int .u64 X ∧ Hid (pvR l (l.length + 1 - k) k X = pvR l (l.length + 1) 0 0)) (fun _ i => l.length - (intOf i).toNat)
  case atStart => exact ⟨0, 0, Nat.zero_le _, by omega, rfl, rfl, Lib.hid rfl⟩
  case round =>
    obtain ⟨k, X, hk, hk10, rfl, rfl, hR⟩ := hrel
    by_cases hlt : k < l.length ∧ k < 10
    · have h1 := hc'.out k hlt.1
      have hv : l[k]?.getD 0 < 256 := by simp [hlt.1]; exact hb'.out _ (List.getElem_mem hlt.1)
      have hf : l.length + 1 - k = (l.length - k) + 1 := by omega
      have hR2 := hR.out
      rw [hf] at hR2
      have hu : pvR l ((l.length - k) + 1) k X = (if k = 9 ∧ 1 < l[k]?.getD 0 then (0, 0, false) else if l[k]?.getD 0 < 128 then (orB X (l[k]?.getD 0) k, (k : Int) + 1, true) else pvR l (l.length - k) (k + 1) (orB X (l[k]?.getD 0) k)) := by
        rw [pvR, if_pos hlt]
      obtain ⟨v, hvv⟩ : ∃ v, v = l[k]?.getD 0 := ⟨_, rfl⟩
      rw [← hvv] at h1 hv hu
      have HH := Lib.hid (And.intro hR2 hu)
      obtain ⟨hlt1, hlt2⟩ := hlt
      clear hvv hR2 hu hf hR
      by_cases h9 : k = 9
      · subst h9
        go_wp2
        · go_ret3
          exact pend HH.out.1 (by rw [HH.out.2, if_pos (by constructor <;> first | trivial | omega)])
        · go_ret3
          exact pend HH.out.1 (by rw [HH.out.2, if_neg (by omega), if_pos (by omega), orB_sixty]; rfl)
      · go_wp2
        · go_ret3
          exact pend HH.out.1 (by rw [HH.out.2, if_neg (fun h => h9 h.1), if_pos (by omega)]; rfl)
        · go_round
          case rel =>
            refine ⟨k + 1, _, by omega, by omega, by go_num, rfl, ?_⟩
            have e : l.length + 1 - (k + 1) = l.length - k := by omega
            rw [e]
            refine Lib.hid ?_
            rw [← HH.out.1, HH.out.2, if_neg (fun h => h9 h.1), if_neg (by omega)]; rfl
          case measure => simp [intOf]; omega
    · by_cases hl2 : k < l.length
      · have : k = 10 := by omega
        subst this
        go_wp2
        go_ret3
        refine pend hR.out ?_
        have hf : l.length + 1 - 10 = (l.length - 10) + 1 := by omega
        rw [hf, pvR, if_neg (by omega)]
      · go_wp2
        go_ret3
        refine pend hR.out ?_
        have hf : l.length + 1 - k = (l.length - k) + 1 := by omega
        rw [hf, pvR, if_neg hlt]

theorem pvarint_nil (ao : Option Addr) (w : World) : Calls Try.prog 18 #[.slice ao 0 0] w (Pend [] w) := by
  go_enter Try.func18, Try.ntmps18
  go_wp2
  go_loop [2, 5] (fun x i => x = .int .u64 0 ∧ i = .int .i64 0) (fun _ _ => 0)
  case atStart => exact ⟨rfl, rfl⟩
  case round =>
    obtain ⟨rfl, rfl⟩ := hrel
    go_wp2
    go_ret3
    exact ⟨rfl, rfl⟩

theorem pvarint_slice (ao : Option Addr) (n cap : Nat) (l : List Nat) (hl : l.length ≤ 2000) (hb : ∀ x ∈ l, x < 256) (w w0 : World) (hs : SliceIs w0 (.slice ao n cap) l) (hbl : Below w0.heap.size w0 w) :
    Calls Try.prog 18 #[.slice ao n cap] w (Pend l w) := by
  rcases hs with ⟨b, off, cap', hs, hcap, hbw, hby⟩ | ⟨⟨ao', hs⟩, rfl⟩
  · injection hs with h1 h2 h3
    subst h1 h2 h3
    exact pvarint_any b off _ l hl hb w (hby.below hbl hbw)
  · injection hs with h1 h2 h3
    subst h1 h2 h3
    exact pvarint_nil _ w

theorem law_small (ao : Option Addr) (n cap : Nat) (l : List Nat) (hn : n = l.length) (hl : l.length ≤ 2000) (hb : ∀ x ∈ l, x < 256) (w : World) (hs : SliceIs w (.slice ao n cap) l) :
    Calls Try.prog 4 #[.slice ao n cap] w fun e w' => e = .returned (.bool true) ∧ Below w.heap.size w w' := by
  have hn' : n ≤ 2000 := by omega
  have H := Lib.hid (And.intro hl (And.intro hb hs))
  clear hl hb hs hn
  have hpv := Lib.hid (pv_uv l (l.length + 1) 0 0 (by omega))
  go_enter Try.func4, Try.ntmps4
  go_wp2_with fail
  refine (read_any _ _ _ l H.out.1 H.out.2.1 _ H.out.2.2).mono ?_
  rintro e w2 ⟨hb2, ⟨hpos, rfl⟩ | ⟨hneg, rfl⟩⟩
  · have hb3 := Lib.hid hb2
    clear hb2
    go_wp2_with fail
    refine (pvarint_slice _ _ _ l H.out.1 H.out.2.1 _ w H.out.2.2 hb3.out).mono ?_
    rintro e w3 ⟨rfl, rfl⟩
    rw [hpv.out, if_pos hpos]
    obtain ⟨N, hN⟩ : ∃ N, N = (uvR l (l.length + 1) 0 0).2 := ⟨_, rfl⟩
    obtain ⟨V, hV⟩ : ∃ V, V = (uvR l (l.length + 1) 0 0).1 := ⟨_, rfl⟩
    rw [← hN, ← hV]
    clear hN hV hpos
    go_wp2
    go_ret
    exact ⟨rfl, hb3.out⟩
  · have hb3 := Lib.hid hb2
    clear hb2
    go_wp2_with fail
    refine (pvarint_slice _ _ _ l H.out.1 H.out.2.1 _ w H.out.2.2 hb3.out).mono ?_
    rintro e w3 ⟨rfl, rfl⟩
    rw [hpv.out, if_neg (by omega)]
    clear hneg
    go_wp2
    go_ret
    exact ⟨rfl, hb3.out⟩

theorem law_big (ao : Option Addr) (n cap : Nat) (hn : 2000 < n) (w : World) :
    Calls Try.prog 4 #[.slice ao n cap] w fun e w' => e = .returned (.bool true) ∧ Below w.heap.size w w' := by
  by_cases h : (2147483647 : Int) < n
  · go_enter Try.func4, Try.ntmps4
    go_wp2
    go_ret
    exact ⟨rfl, Below.refl _ _⟩
  · go_enter Try.func4, Try.ntmps4
    go_wp2
    go_ret
    exact ⟨rfl, Below.refl _ _⟩
end Go.Proofs.Ytpphfoggjejpiaa
