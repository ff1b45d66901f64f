/-
  Plain facts on the numbers of 64 bits, with no program in sight: a finite word as a whole multiple of the least place; order, sum, difference and product where the exact answer is a word. Conditions: as each theorem states them.
-/
import Derived.Laws.FloatArith
namespace Go.Proofs.Ytpphfoggjejpiaa.Fl
open Ieee

def rd (x : Nat) : Datum := Ieee.double.read x
def fin (x : Nat) : Bool := match rd x with | .number .. => true | _ => false
/-- A finite word in units of the least place. -/
def sc (x : Nat) : Int := match rd x with | .number s m e => signed s m (e + 1074).toNat | _ => 0

theorem signed_eq (s : Bool) (m k : Nat) : signed s m k = (if s then -1 else 1) * ((m : Int) * 2 ^ k) := by
  unfold signed
  rw [Nat.shiftLeft_eq]
  cases s <;> simp [Int.natCast_mul, Int.natCast_pow]

theorem signed_add (s : Bool) (m a b : Nat) : signed s m (a + b) = signed s m a * 2 ^ b := by
  rw [signed_eq, signed_eq, Int.pow_add, Int.mul_assoc, Int.mul_assoc]

theorem lp : Ieee.double.leastPlace = -1074 := by decide
theorem bin : Ieee.double.binade = 2 ^ 52 := by decide
theorem inf : Ieee.double.infRung = 2047 * 2 ^ 52 := by decide
theorem sgw : Ieee.double.signWeight = 2 ^ 63 := by decide

theorem rd_eq (x : Nat) : rd x = (let neg := x / 2 ^ 63 % 2 == 1
  let rung := x % 2 ^ 63
  if rung < 2 ^ 52 then .number neg rung (-1074)
  else if rung < 2047 * 2 ^ 52 then .number neg (2 ^ 52 + rung % 2 ^ 52) (-1074 + (rung / 2 ^ 52 - 1 : Nat))
  else if rung = 2047 * 2 ^ 52 then .infinity neg
  else .nan neg (rung - 2047 * 2 ^ 52)) := by
  unfold rd Format.read
  rw [lp, bin, inf, sgw]

/-- What a finite word's parts are. -/
theorem rd_bounds {x : Nat} {s : Bool} {m : Nat} {e : Int} (h : rd x = .number s m e) : -1074 ≤ e ∧ e ≤ 971 ∧ m < 2 ^ 53 := by
  rw [rd_eq] at h
  dsimp only at h
  by_cases h1 : x % 2 ^ 63 < 2 ^ 52
  · rw [if_pos h1] at h
    injection h with _ h2 h3
    omega
  · rw [if_neg h1] at h
    by_cases h2 : x % 2 ^ 63 < 2047 * 2 ^ 52
    · rw [if_pos h2] at h
      injection h with _ h3 h4
      omega
    · rw [if_neg h2] at h
      by_cases h3 : x % 2 ^ 63 = 2047 * 2 ^ 52
      · rw [if_pos h3] at h; cases h
      · rw [if_neg h3] at h; cases h

theorem fin_iff {x : Nat} : fin x = true ↔ ∃ s m e, rd x = .number s m e := by
  unfold fin
  cases h : rd x <;> simp

theorem sc_of {x : Nat} {s : Bool} {m : Nat} {e : Int} (h : rd x = .number s m e) : sc x = signed s m (e + 1074).toNat := by
  unfold sc; rw [h]

theorem pow_pos' (k : Nat) : (0 : Int) < 2 ^ k := Int.pow_pos (by decide)

theorem cmp_mul (a b : Int) (p : Int) (hp : 0 < p) : compare (a * p) (b * p) = compare a b := by
  have h1 : (a * p < b * p) ↔ a < b := by
    constructor
    · intro h; exact Int.lt_of_mul_lt_mul_right h (Int.le_of_lt hp)
    · intro h; exact Int.mul_lt_mul_of_pos_right h hp
  have h2 : (a * p = b * p) ↔ a = b := by
    constructor
    · intro h; exact Int.eq_of_mul_eq_mul_right (by omega) h
    · intro h; rw [h]
  show compareOfLessAndEq _ _ = compareOfLessAndEq _ _
  unfold compareOfLessAndEq
  simp only [h1, h2]

theorem order_fin {x y : Nat} (hx : fin x = true) (hy : fin y = true) : FloatKind.f64.format.order x y = some (compare (sc x) (sc y)) := by
  obtain ⟨s, m, i, hx⟩ := fin_iff.1 hx
  obtain ⟨t, n, j, hy⟩ := fin_iff.1 hy
  have bx := rd_bounds hx
  have byy := rd_bounds hy
  have e1 : (i + 1074).toNat = (i - min i j).toNat + (min i j + 1074).toNat := by omega
  have e2 : (j + 1074).toNat = (j - min i j).toNat + (min i j + 1074).toNat := by omega
  show Datum.order (rd x) (rd y) = _
  rw [hx, hy, sc_of hx, sc_of hy, e1, e2, signed_add, signed_add, cmp_mul _ _ _ (pow_pos' _)]
  rfl

theorem cmp_lt (a b : Int) : (some (compare a b) == some Ordering.lt) = decide (a < b) := by
  show (some (compareOfLessAndEq a b) == some Ordering.lt) = _
  unfold compareOfLessAndEq
  by_cases h : a < b
  · simp [h]
  · by_cases h2 : a = b <;> simp [h, h2]
theorem cmp_eq (a b : Int) : (some (compare a b) == some Ordering.eq) = decide (a = b) := by
  show (some (compareOfLessAndEq a b) == some Ordering.eq) = _
  unfold compareOfLessAndEq
  by_cases h : a < b
  · have : a ≠ b := by omega
    simp [h, this]
  · by_cases h2 : a = b <;> simp [h, h2]
theorem cmp_gt (a b : Int) : (some (compare a b) == some Ordering.gt) = decide (b < a) := by
  show (some (compareOfLessAndEq a b) == some Ordering.gt) = _
  unfold compareOfLessAndEq
  by_cases h : a < b
  · have h2 : ¬ b < a := by omega
    simp [h, h2]
  · by_cases h2 : a = b
    · subst h2; simp
    · have h3 : b < a := by omega
      simp [h, h2, h3]

section
variable {x y : Nat} (hx : fin x = true) (hy : fin y = true)
include hx hy
theorem lt_fin : (FloatKind.f64.format.order x y == some .lt) = decide (sc x < sc y) := by rw [order_fin hx hy, cmp_lt]
theorem eq_fin : (FloatKind.f64.format.order x y == some .eq) = decide (sc x = sc y) := by rw [order_fin hx hy, cmp_eq]
theorem gt_fin : (FloatKind.f64.format.order x y == some .gt) = decide (sc y < sc x) := by rw [order_fin hx hy, cmp_gt]
theorem ne_fin : (FloatKind.f64.format.order x y != some .eq) = decide (sc x ≠ sc y) := by
  show (!(FloatKind.f64.format.order x y == some .eq)) = _
  rw [order_fin hx hy, cmp_eq]; simp
theorem le_fin : (FloatKind.f64.format.order x y == some .lt || FloatKind.f64.format.order x y == some .eq) = decide (sc x ≤ sc y) := by
  rw [order_fin hx hy, cmp_lt, cmp_eq]
  rw [Bool.eq_iff_iff]; simp; omega
theorem ge_fin : (FloatKind.f64.format.order x y == some .gt || FloatKind.f64.format.order x y == some .eq) = decide (sc y ≤ sc x) := by
  rw [order_fin hx hy, cmp_gt, cmp_eq]
  rw [Bool.eq_iff_iff]; simp; omega
end

/-! ### writing -/

theorem rd_word (s : Bool) (R : Nat) (hR : R < 2 ^ 63) : rd (Ieee.double.word s R) = (if R < 2 ^ 52 then .number s R (-1074)
  else if R < 2047 * 2 ^ 52 then .number s (2 ^ 52 + R % 2 ^ 52) (-1074 + (R / 2 ^ 52 - 1 : Nat))
  else if R = 2047 * 2 ^ 52 then .infinity s
  else .nan s (R - 2047 * 2 ^ 52)) := by
  rw [rd_eq]
  have h1 : Ieee.double.word s R % 2 ^ 63 = R := by
    unfold Format.word; rw [sgw]; cases s <;> simp <;> omega
  have h2 : (Ieee.double.word s R / 2 ^ 63 % 2 == 1) = s := by
    unfold Format.word; rw [sgw]
    cases s
    · have : R / 2 ^ 63 % 2 = 0 := by omega
      simp [this]
    · have : (2 ^ 63 + R) / 2 ^ 63 % 2 = 1 := by omega
      simp only [if_true, this]; rfl
  dsimp only
  rw [h1, h2]

theorem word_lt (s : Bool) (R : Nat) (hR : R < 2 ^ 63) : Ieee.double.word s R < 2 ^ 64 := by
  unfold Format.word; rw [sgw]; cases s <;> simp <;> omega

theorem log2_bounds {m : Nat} (hm : m ≠ 0) : 2 ^ m.log2 ≤ m ∧ m < 2 ^ (m.log2 + 1) := ⟨Nat.log2_self_le hm, Nat.lt_log2_self⟩

theorem cut_zero (s : Bool) (n : Nat) : Toward.even.cut s n 0 = n := by
  unfold Toward.cut
  simp [Nat.mod_one, Nat.shiftLeft_eq]

theorem cut_dvd (s : Bool) (n d q : Nat) (hd : d ≤ n.log2 + 2) (h : n = q * 2 ^ d) : Toward.even.cut s n d = q := by
  unfold Toward.cut
  have hp : 0 < 2 ^ d := Nat.two_pow_pos d
  have e : min d (n.log2 + 2) = d := by omega
  have e1 : n % 2 ^ d = 0 := by rw [h, Nat.mul_mod_left]
  have e2 : n / 2 ^ d = q := by rw [h, Nat.mul_div_cancel _ hp]
  have e3 : ¬ 2 ^ d = 0 := by omega
  simp only [e, Nat.shiftLeft_eq, Nat.one_mul, e1, e2]
  have e4 : (2 ^ d < 2 * 0 : Bool) = false := by simp
  have e5 : (2 ^ d == 2 * 0) = false := by simp
  simp [e5]

/-- The nearest word to a number that is one. -/
theorem near_val (s : Bool) (m : Nat) (e : Int) (k q : Nat) (hm : m ≠ 0) (he : -1074 ≤ e) (hk : k < 2 ^ 53) (hq : q ≤ 2045)
    (hv : m * 2 ^ (e + 1074).toNat = k * 2 ^ q) :
    fin (Ieee.double.nearest s m e) = true ∧ sc (Ieee.double.nearest s m e) = (if s then -1 else 1) * ((m * 2 ^ (e + 1074).toNat : Nat) : Int) ∧ Ieee.double.nearest s m e < 2 ^ 64 := by
  obtain ⟨E, hE⟩ : ∃ E : Nat, E = (e + 1074).toNat := ⟨_, rfl⟩
  have hb := log2_bounds hm
  obtain ⟨l, hl⟩ : ∃ l : Nat, l = m.log2 := ⟨_, rfl⟩
  rw [← hl] at hb
  rw [← hE] at hv ⊢
  -- sizes
  have hV1 : 2 ^ (l + E) ≤ k * 2 ^ q := by rw [← hv, Nat.pow_add]; exact Nat.mul_le_mul_right _ hb.1
  have hV2 : m * 2 ^ E < 2 ^ (l + E + 1) := by
    have : 2 ^ (l + E + 1) = 2 ^ (l + 1) * 2 ^ E := by rw [← Nat.pow_add]; congr 1; omega
    rw [this]; exact Nat.mul_lt_mul_of_pos_right hb.2 (Nat.two_pow_pos E)
  have hlq : l + E < 53 + q := by
    have : 2 ^ (l + E) < 2 ^ (53 + q) := by
      refine Nat.lt_of_le_of_lt hV1 ?_
      rw [Nat.pow_add]; exact Nat.mul_lt_mul_of_pos_right hk (Nat.two_pow_pos q)
    exact (Nat.pow_lt_pow_iff_right (by decide)).1 this
  obtain ⟨L, hL⟩ : ∃ L : Nat, L = l + E - 52 := ⟨_, rfl⟩
  have hlast : max (e + (m.log2 : Int) - (Ieee.double.fractionBits : Int)) Ieee.double.leastPlace = (L : Int) - 1074 := by
    rw [lp, ← hl]; show max (e + (l : Int) - 52) (-1074) = _; omega
  -- what is kept
  obtain ⟨kept, hkept, hval⟩ : ∃ kept, Toward.even.cut s (m <<< (e - ((L : Int) - 1074)).toNat) (((L : Int) - 1074) - e).toNat = kept ∧ m * 2 ^ E = kept * 2 ^ L := by
    by_cases hc : L ≤ E
    · refine ⟨m * 2 ^ (E - L), ?_, ?_⟩
      · have e1 : (e - ((L : Int) - 1074)).toNat = E - L := by omega
        have e2 : (((L : Int) - 1074) - e).toNat = 0 := by omega
        rw [e1, e2, cut_zero, Nat.shiftLeft_eq]
      · rw [Nat.mul_assoc, ← Nat.pow_add]; congr 2; omega
    · have hqL : L ≤ q := by omega
      have hdvd : m = (k * 2 ^ (q - L)) * 2 ^ (L - E) := by
        have h1 : m * 2 ^ E = ((k * 2 ^ (q - L)) * 2 ^ (L - E)) * 2 ^ E := by
          rw [hv, Nat.mul_assoc, Nat.mul_assoc, ← Nat.pow_add, ← Nat.pow_add]; congr 2; omega
        exact Nat.eq_of_mul_eq_mul_right (Nat.two_pow_pos E) h1
      refine ⟨k * 2 ^ (q - L), ?_, ?_⟩
      · have e1 : (e - ((L : Int) - 1074)).toNat = 0 := by omega
        have e2 : (((L : Int) - 1074) - e).toNat = L - E := by omega
        rw [e1, e2, Nat.shiftLeft_zero]
        refine cut_dvd _ _ _ _ ?_ hdvd
        rw [← hl]; omega
      · rw [hv, Nat.mul_assoc, ← Nat.pow_add]; congr 2; omega
  have hkp : kept < 2 ^ 53 := by
    have h1 : kept * 2 ^ L < 2 ^ 53 * 2 ^ L := by
      rw [← hval]; refine Nat.lt_of_lt_of_le hV2 ?_
      rw [← Nat.pow_add]; exact Nat.pow_le_pow_right (by decide) (by omega)
    exact Nat.lt_of_mul_lt_mul_right h1
  have hkl : 0 < L → 2 ^ 52 ≤ kept := by
    intro hL0
    have h1 : 2 ^ 52 * 2 ^ L ≤ kept * 2 ^ L := by
      rw [← hval, hv, ← Nat.pow_add]
      refine Nat.le_trans ?_ hV1
      exact Nat.pow_le_pow_right (by decide) (by omega)
    exact Nat.le_of_mul_le_mul_right h1 (Nat.two_pow_pos L)
  have hLq : L ≤ 2045 := by omega
  have hR : L * 2 ^ 52 + kept < 2047 * 2 ^ 52 := by omega
  have hnear : Ieee.double.nearest s m e = Ieee.double.word s (L * 2 ^ 52 + kept) := by
    unfold Format.nearest
    rw [if_neg hm]
    dsimp only
    rw [hlast, hkept, lp, bin, inf]
    have e3 : ((L : Int) - 1074 - -1074).toNat = L := by omega
    rw [e3, Nat.min_eq_left (by omega)]
  have hrd : rd (Ieee.double.nearest s m e) = .number s kept ((L : Int) - 1074) := by
    rw [hnear, rd_word s _ (by omega)]
    by_cases hL0 : L = 0
    · have eL : (L : Int) - 1074 = -1074 := by omega
      rw [eL]
      have e0 : L * 2 ^ 52 + kept = kept := by omega
      rw [e0]
      by_cases hk2 : kept < 2 ^ 52
      · rw [if_pos hk2]
      · rw [if_neg hk2, if_pos (by omega)]
        have e1 : kept % 2 ^ 52 = kept - 2 ^ 52 := by omega
        have e2 : kept / 2 ^ 52 = 1 := by omega
        rw [e1, e2]
        have e3 : 2 ^ 52 + (kept - 2 ^ 52) = kept := by omega
        rw [e3]; rfl
    · have hk2 := hkl (by omega)
      rw [if_neg (by omega), if_pos (by omega)]
      have e1 : (L * 2 ^ 52 + kept) % 2 ^ 52 = kept - 2 ^ 52 := by omega
      have e2 : (L * 2 ^ 52 + kept) / 2 ^ 52 = L + 1 := by omega
      rw [e1, e2]
      have e3 : 2 ^ 52 + (kept - 2 ^ 52) = kept := by omega
      rw [e3]; first | rfl | (congr 1 <;> omega)
  refine ⟨fin_iff.2 ⟨_, _, _, hrd⟩, ?_, by rw [hnear]; exact word_lt _ _ (by omega)⟩
  rw [sc_of hrd, signed_eq]
  have e4 : ((L : Int) - 1074 + 1074).toNat = L := by omega
  rw [e4, hval]
  first | rfl | (congr 1; simp [Int.natCast_mul, Int.natCast_pow])

theorem near_zero (s : Bool) (e : Int) : fin (Ieee.double.nearest s 0 e) = true ∧ sc (Ieee.double.nearest s 0 e) = 0 ∧ Ieee.double.nearest s 0 e < 2 ^ 64 := by
  have h : Ieee.double.nearest s 0 e = Ieee.double.word s 0 := by unfold Format.nearest; rw [if_pos rfl]
  have hr : rd (Ieee.double.nearest s 0 e) = .number s 0 (-1074) := by rw [h, rd_word s 0 (by decide)]; simp
  refine ⟨fin_iff.2 ⟨_, _, _, hr⟩, ?_, by rw [h]; exact word_lt _ _ (by decide)⟩
  rw [sc_of hr, signed_eq]; simp

/-- The same of a signed number in units of the least place. -/
theorem write_val (s : Bool) (m : Nat) (e : Int) (n : Int) (q : Nat) (he : m ≠ 0 → -1074 ≤ e) (hn : n.natAbs < 2 ^ 53) (hq : q ≤ 2045)
    (hv : signed s m (e + 1074).toNat = n * 2 ^ q) :
    fin (Ieee.double.nearest s m e) = true ∧ sc (Ieee.double.nearest s m e) = n * 2 ^ q ∧ Ieee.double.nearest s m e < 2 ^ 64 := by
  by_cases hm : m = 0
  · subst hm
    obtain ⟨a, b, c⟩ := near_zero s e
    refine ⟨a, ?_, c⟩
    rw [b, ← hv, signed_eq]; simp
  · have hv' : m * 2 ^ (e + 1074).toNat = n.natAbs * 2 ^ q := by
      have := congrArg Int.natAbs hv
      rw [signed_eq, Int.natAbs_mul, Int.natAbs_mul, Int.natAbs_mul, Int.natAbs_pow] at this
      have e1 : (if s = true then (-1 : Int) else 1).natAbs = 1 := by cases s <;> rfl
      rw [e1] at this
      simpa using this
    obtain ⟨a, b, c⟩ := near_val s m e n.natAbs q hm (he hm) hn hq hv'
    refine ⟨a, ?_, c⟩
    rw [b, ← hv, signed_eq]
    first | rfl | (congr 1; simp [Int.natCast_mul, Int.natCast_pow])

theorem sum_fin {x y : Nat} (hx : fin x = true) (hy : fin y = true) (n : Int) (q : Nat) (hn : n.natAbs < 2 ^ 53) (hq : q ≤ 2045) (hv : sc x + sc y = n * 2 ^ q) :
    ∃ r, FloatKind.f64.format.add x y = some r ∧ fin r = true ∧ sc r = n * 2 ^ q ∧ r < 2 ^ 64 := by
  obtain ⟨s, m, i, hx⟩ := fin_iff.1 hx
  obtain ⟨t, k, j, hy⟩ := fin_iff.1 hy
  have bx := rd_bounds hx
  have byy := rd_bounds hy
  have e1 : (i + 1074).toNat = (i - min i j).toNat + (min i j + 1074).toNat := by omega
  have e2 : (j + 1074).toNat = (j - min i j).toNat + (min i j + 1074).toNat := by omega
  rw [sc_of hx, sc_of hy, e1, e2, signed_add, signed_add, ← Int.add_mul] at hv
  have hadd : FloatKind.f64.format.add x y = some (Ieee.double.nearest (if signed s m (i - min i j).toNat + signed t k (j - min i j).toNat = 0 then s && t else decide (signed s m (i - min i j).toNat + signed t k (j - min i j).toNat < 0)) (signed s m (i - min i j).toNat + signed t k (j - min i j).toNat).natAbs (min i j)) := by
    show (Datum.sum (rd x) (rd y)).map _ = _
    rw [hx, hy]; rfl
  refine ⟨_, hadd, write_val _ _ _ n q (fun _ => by omega) hn hq ?_⟩
  rw [← hv]
  generalize signed s m (i - min i j).toNat + signed t k (j - min i j).toNat = T
  rw [signed_eq]
  by_cases h0 : T = 0
  · subst h0; simp
  · rw [if_neg h0]
    by_cases h1 : T < 0
    · simp only [h1, decide_true, if_true]
      have : ((T.natAbs : Nat) : Int) = -T := by omega
      rw [this, Int.neg_mul, Int.neg_mul, Int.one_mul, Int.neg_neg]
    · simp only [h1, decide_false, Bool.false_eq_true, if_false]
      have : ((T.natAbs : Nat) : Int) = T := by omega
      rw [this, Int.one_mul]

theorem rd_opposite {y : Nat} {t : Bool} {k : Nat} {j : Int} (hy : rd y = .number t k j) : (rd y).opposite = .number (!t) k j := by rw [hy]; rfl

theorem signed_not (t : Bool) (k a : Nat) : signed (!t) k a = - signed t k a := by
  rw [signed_eq, signed_eq]; cases t <;> simp [Int.neg_mul]

theorem sub_fin {x y : Nat} (hx : fin x = true) (hy : fin y = true) (n : Int) (q : Nat) (hn : n.natAbs < 2 ^ 53) (hq : q ≤ 2045) (hv : sc x - sc y = n * 2 ^ q) :
    ∃ r, FloatKind.f64.format.sub x y = some r ∧ fin r = true ∧ sc r = n * 2 ^ q ∧ r < 2 ^ 64 := by
  obtain ⟨s, m, i, hx⟩ := fin_iff.1 hx
  obtain ⟨t, k, j, hy⟩ := fin_iff.1 hy
  have bx := rd_bounds hx
  have byy := rd_bounds hy
  have e1 : (i + 1074).toNat = (i - min i j).toNat + (min i j + 1074).toNat := by omega
  have e2 : (j + 1074).toNat = (j - min i j).toNat + (min i j + 1074).toNat := by omega
  rw [sc_of hx, sc_of hy, Int.sub_eq_add_neg, ← signed_not, e1, e2, signed_add, signed_add, ← Int.add_mul] at hv
  have hadd : FloatKind.f64.format.sub x y = some (Ieee.double.nearest (if signed s m (i - min i j).toNat + signed (!t) k (j - min i j).toNat = 0 then s && !t else decide (signed s m (i - min i j).toNat + signed (!t) k (j - min i j).toNat < 0)) (signed s m (i - min i j).toNat + signed (!t) k (j - min i j).toNat).natAbs (min i j)) := by
    show (Datum.sum (rd x) (rd y).opposite).map _ = _
    rw [hx, hy]; rfl
  refine ⟨_, hadd, write_val _ _ _ n q (fun _ => by omega) hn hq ?_⟩
  rw [← hv]
  generalize signed s m (i - min i j).toNat + signed (!t) k (j - min i j).toNat = T
  rw [signed_eq]
  by_cases h0 : T = 0
  · subst h0; simp
  · rw [if_neg h0]
    by_cases h1 : T < 0
    · simp only [h1, decide_true, if_true]
      have : ((T.natAbs : Nat) : Int) = -T := by omega
      rw [this, Int.neg_mul, Int.neg_mul, Int.one_mul, Int.neg_neg]
    · simp only [h1, decide_false, Bool.false_eq_true, if_false]
      have : ((T.natAbs : Nat) : Int) = T := by omega
      rw [this, Int.one_mul]

/-- A finite word's place is not far below the place of the whole number that it stands for. -/
theorem place_ge {x : Nat} {s : Bool} {m : Nat} {i : Int} (hx : rd x = .number s m i) (a : Int) (p : Nat) (ha : a ≠ 0) (hv : sc x = a * 2 ^ p) : (p : Int) ≤ i + 1074 + 52 := by
  have bx := rd_bounds hx
  rw [sc_of hx, signed_eq] at hv
  have hv' : m * 2 ^ (i + 1074).toNat = a.natAbs * 2 ^ p := by
    have := congrArg Int.natAbs hv
    rw [Int.natAbs_mul, Int.natAbs_mul, Int.natAbs_mul, Int.natAbs_pow] at this
    have e1 : (if s = true then (-1 : Int) else 1).natAbs = 1 := by cases s <;> rfl
    rw [e1] at this
    simpa using this
  have h1 : 2 ^ p < 2 ^ (53 + (i + 1074).toNat) := by
    refine Nat.lt_of_le_of_lt ?_ (show m * 2 ^ (i + 1074).toNat < _ from ?_)
    · rw [hv']; exact Nat.le_mul_of_pos_left _ (by omega)
    · rw [Nat.pow_add]; exact Nat.mul_lt_mul_of_pos_right bx.2.2 (Nat.two_pow_pos _)
  have := (Nat.pow_lt_pow_iff_right (a := 2) (by decide)).1 h1
  omega

theorem mul_fin {x y : Nat} (hx : fin x = true) (hy : fin y = true) (a b : Int) (p q : Nat) (hab : (a * b).natAbs < 2 ^ 53) (hpq : 1178 ≤ p + q) (hpq2 : p + q ≤ 3119) (hva : sc x = a * 2 ^ p) (hvb : sc y = b * 2 ^ q) :
    ∃ r, FloatKind.f64.format.mul x y = some r ∧ fin r = true ∧ sc r = (a * b) * 2 ^ (p + q - 1074) ∧ r < 2 ^ 64 := by
  obtain ⟨s, m, i, hx⟩ := fin_iff.1 hx
  obtain ⟨t, k, j, hy⟩ := fin_iff.1 hy
  have bx := rd_bounds hx
  have byy := rd_bounds hy
  have hmul : FloatKind.f64.format.mul x y = some (Ieee.double.nearest (s ^^ t) (m * k) (i + j)) := by
    show (Datum.product (rd x) (rd y)).map _ = _
    rw [hx, hy]; rfl
  have hpl : m * k ≠ 0 → -1074 ≤ i + j := by
    intro h0
    have ha : a ≠ 0 := by
      intro h; subst h
      rw [sc_of hx, signed_eq, Int.zero_mul] at hva
      have hm : m ≠ 0 := fun h => h0 (by rw [h, Nat.zero_mul])
      have : (0 : Int) < (m : Int) * 2 ^ (i + 1074).toNat := Int.mul_pos (by omega) (pow_pos' _)
      cases s <;> simp at hva <;> omega
    have hb : b ≠ 0 := by
      intro h; subst h
      rw [sc_of hy, signed_eq, Int.zero_mul] at hvb
      have hm : k ≠ 0 := fun h => h0 (by rw [h, Nat.mul_zero])
      have : (0 : Int) < (k : Int) * 2 ^ (j + 1074).toNat := Int.mul_pos (by omega) (pow_pos' _)
      cases t <;> simp at hvb <;> omega
    have h1 := place_ge hx a p ha hva
    have h2 := place_ge hy b q hb hvb
    omega
  refine ⟨_, hmul, write_val _ _ _ (a * b) (p + q - 1074) hpl hab (by omega) ?_⟩
  by_cases h0 : m * k = 0
  · have hz : a * b = 0 := by
      rcases Nat.mul_eq_zero.1 h0 with h | h
      · rw [sc_of hx, signed_eq, h] at hva
        have h' : a * 2 ^ p = 0 := by rw [← hva]; simp
        rcases Int.mul_eq_zero.1 h' with h' | h'
        · rw [h', Int.zero_mul]
        · have := pow_pos' p; omega
      · rw [sc_of hy, signed_eq, h] at hvb
        have h' : b * 2 ^ q = 0 := by rw [← hvb]; simp
        rcases Int.mul_eq_zero.1 h' with h' | h'
        · rw [h', Int.mul_zero]
        · have := pow_pos' q; omega
    rw [hz, h0, signed_eq]; simp
  · have hp := hpl h0
    have key : signed (s ^^ t) (m * k) (i + j + 1074).toNat * 2 ^ 1074 = sc x * sc y := by
      rw [← signed_add, sc_of hx, sc_of hy, signed_eq, signed_eq, signed_eq]
      have e1 : (i + j + 1074).toNat + 1074 = (i + 1074).toNat + (j + 1074).toNat := by omega
      rw [e1, Int.pow_add, Int.natCast_mul]
      cases s <;> cases t <;> simp [Int.neg_mul, Int.mul_neg] <;> ac_rfl
    rw [hva, hvb] at key
    have hcanc : (a * b * 2 ^ (p + q - 1074)) * 2 ^ 1074 = a * 2 ^ p * (b * 2 ^ q) := by
      have e2 : p + q - 1074 + 1074 = p + q := by omega
      rw [Int.mul_assoc, ← Int.pow_add, e2, Int.pow_add]; ac_rfl
    rw [← hcanc] at key
    exact Int.eq_of_mul_eq_mul_right (Int.ne_of_gt (pow_pos' 1074)) key
end Go.Proofs.Ytpphfoggjejpiaa.Fl
