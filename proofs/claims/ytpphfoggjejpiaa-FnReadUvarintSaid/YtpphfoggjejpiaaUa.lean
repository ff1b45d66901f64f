/-
  The walk over the library's reader of a number, seven bits a byte. Conditions: at most 2000 bytes.
-/
import Derived.Test.YtpphfoggjejpiaaRows
import Derived.Test.YtpphfoggjejpiaaLw
namespace Go.Proofs.Ytpphfoggjejpiaa
open Go.RowKit

/-- The cells from an address on are the bytes of the list. -/
def BytesAt (w : World) (b off : Nat) (l : List Nat) : Prop := ∀ i, i < l.length → w.cell? ⟨b, off + i, none⟩ = some (.int .u8 (l[i]?.getD 0 : Nat))

/-- One byte's seven bits laid beside what was read. -/
def orB (X : Int) (v k : Nat) : Int := bits .or .u64 X (IntKind.u64.wrap (IntKind.u64.wrap (bits .and .u8 (v : Int) 127) * 2 ^ (7 * k)))

theorem and127 {v : Nat} (h : v < 128) : IntKind.u64.wrap (bits .and .u8 (v : Int) 127) = v := by
  rw [u8_and _ _ (by omega) (by omega) (by omega) (by omega)]
  have e : ((v : Int).toNat &&& (127 : Int).toNat) = v := by
    have : (127 : Int).toNat = 2 ^ 7 - 1 := by decide
    rw [this, Nat.and_two_pow_sub_one_eq_mod]; omega
  rw [e]
  simp only [IntKind.wrap, IntKind.signed, IntKind.bits]
  simp; omega

theorem orB_small {v : Nat} (h : v < 128) (X : Int) (k : Nat) : bits .or .u64 X (IntKind.u64.wrap ((v : Int) * 2 ^ (7 * k))) = orB X v k := by
  unfold orB; rw [and127 h]

theorem orB_nine {v : Nat} (h : v ≤ 1) (X : Int) : bits .or .u64 X ((v : Int) * 9223372036854775808) = orB X v 9 := by
  rw [← orB_small (by omega)]
  have e : IntKind.u64.wrap ((v : Int) * 2 ^ (7 * 9)) = (v : Int) * 9223372036854775808 := by
    have : v = 0 ∨ v = 1 := by omega
    rcases this with rfl | rfl <;> decide
  rw [e]

/-- What the reader gives from place k on, X read so far. -/
def uvR (l : List Nat) : Nat → Nat → Int → Int × Int
  | 0, _, _ => (0, 0)
  | f + 1, k, X =>
    if k < l.length then
      if k = 10 then (0, -((k : Int) + 1))
      else if l[k]?.getD 0 < 128 then if k = 9 ∧ 1 < l[k]?.getD 0 then (0, -((k : Int) + 1)) else (orB X (l[k]?.getD 0) k, (k : Int) + 1)
      else uvR l f (k + 1) (orB X (l[k]?.getD 0) k)
    else (0, 0)

def Uend (l : List Nat) (w : World) (e : Ending) (w' : World) : Prop := e = .returned (.tuple #[.int .u64 (uvR l (l.length + 1) 0 0).1, .int .i64 (uvR l (l.length + 1) 0 0).2]) ∧ w = w'

theorem uend {l : List Nat} {w : World} {f k : Nat} {X : Int} (hR : uvR l f k X = uvR l (l.length + 1) 0 0) {v n : Int} (h : uvR l f k X = (v, n)) : Uend l w (.returned (.tuple #[.int .u64 v, .int .i64 n])) w := by
  unfold Uend; rw [← hR, h]; exact ⟨rfl, rfl⟩

set_option maxRecDepth 100000 in
set_option maxHeartbeats 400000 in
theorem uvarint_any (b off cap : Nat) (l : List Nat) (hl : l.length ≤ 2000) (hb : ∀ x ∈ l, x < 256) (w : World) (hc : BytesAt w b off l) :
    Calls Try.prog 166 #[.slice (some ⟨b, off, none⟩) l.length cap] w (Uend l w) := by
  have hc' := Lib.hid hc
  have hb' := Lib.hid hb
  clear hc hb
  go_enter Try.func166, Try.ntmps166
  go_wp2
  go_loop [4, 5, 10] (fun x s i => ∃ (k : Nat) (X : Int), k ≤ l.length ∧ k ≤ 10 ∧ i = .int .i64 k ∧ s = .int .u64 (7 * k : Nat) ∧ x = .int .u64 X ∧ Hid (uvR l (l.length + 1 - k) k X = uvR l (l.length + 1) 0 0)) (fun _ _ i => l.length - (intOf i).toNat)
  case atStart => exact ⟨0, 0, Nat.zero_le _, by omega, rfl, rfl, rfl, Lib.hid rfl⟩
  case round =>
    obtain ⟨k, X, hk, hk10, rfl, rfl, rfl, hR⟩ := hrel
    by_cases hlt : k < l.length
    · have h1 := hc'.out k hlt
      have hv : l[k]?.getD 0 < 256 := by simp [hlt]; exact hb'.out _ (List.getElem_mem hlt)
      have hf : l.length + 1 - k = (l.length - k) + 1 := by omega
      have hR2 := hR.out
      rw [hf] at hR2
      have hu : uvR l ((l.length - k) + 1) k X = (if k = 10 then (0, -((k : Int) + 1)) else if l[k]?.getD 0 < 128 then if k = 9 ∧ 1 < l[k]?.getD 0 then (0, -((k : Int) + 1)) else (orB X (l[k]?.getD 0) k, (k : Int) + 1) else uvR l (l.length - k) (k + 1) (orB X (l[k]?.getD 0) k)) := by
        rw [uvR, if_pos hlt]
      obtain ⟨v, hvv⟩ : ∃ v, v = l[k]?.getD 0 := ⟨_, rfl⟩
      rw [← hvv] at h1 hv hu
      have HH := Lib.hid (And.intro hR2 hu)
      clear hvv hR2 hu hf hR
      go_wp2
      · go_ret2
        have : k = 10 := by have h10 := ‹((k : Int) == 10) = true›; simp at h10; omega
        subst this
        exact uend HH.out.1 (by rw [HH.out.2, if_pos rfl]; first | done | rfl)
      · go_ret2
        have hk9 : k = 9 := by omega
        subst hk9
        exact uend HH.out.1 (by rw [HH.out.2, if_neg (by omega), if_pos (by omega), if_pos ⟨rfl, by omega⟩]; first | done | rfl)
      · go_ret2
        have hk9 : k = 9 := by omega
        subst hk9
        have hv1 : v ≤ 1 := by omega
        exact uend HH.out.1 (by rw [HH.out.2, if_neg (by omega), if_pos (by omega), if_neg (by omega), ← orB_nine hv1]; first | done | rfl)
      · go_ret2
        have hk10 : k ≠ 10 := by intro h; subst h; simp at *
        exact uend HH.out.1 (by rw [HH.out.2, if_neg hk10, if_pos (by omega), if_neg (by omega), ← orB_small (by omega)])
      · go_round
        case rel =>
          have hk10 : k ≠ 10 := by intro h; subst h; simp at *
          refine ⟨k + 1, _, by omega, by omega, by go_num, ?_, rfl, ?_⟩
          · congr 1
          · have e : l.length + 1 - (k + 1) = l.length - k := by omega
            rw [e]
            refine Lib.hid ?_
            rw [← HH.out.1, HH.out.2, if_neg hk10, if_neg (by omega)]; rfl
        case measure => simp [intOf]; omega
    · go_wp2
      go_ret2
      refine uend hR.out ?_
      have hf : l.length + 1 - k = (l.length - k) + 1 := by omega
      rw [hf, uvR, if_neg hlt]
end Go.Proofs.Ytpphfoggjejpiaa
