/-
  Plain facts on the words of binary64, more: integers' words, the order, canonicity.
-/
import Derived.Test.YbulkbptgFloat
namespace Go.Proofs.Ybulkbptg.Fl
open Ieee
set_option linter.unusedVariables false

theorem shift_lo (m : Nat) (h0 : m ≠ 0) (hl : m.log2 ≤ 52) : B ≤ m * 2 ^ (52 - m.log2) := by
  have h1 : 2 ^ m.log2 ≤ m := Nat.log2_self_le h0
  have h2 : 2 ^ m.log2 * 2 ^ (52 - m.log2) ≤ m * 2 ^ (52 - m.log2) := Nat.mul_le_mul_right _ h1
  rw [← Nat.pow_add, show m.log2 + (52 - m.log2) = 52 by omega, ← B_pow] at h2
  exact h2
theorem shift_hi (m : Nat) (hl : m.log2 ≤ 52) : m * 2 ^ (52 - m.log2) < 2 * B := by
  have h1 : m < 2 ^ (m.log2 + 1) := Nat.lt_log2_self
  have h2 : m * 2 ^ (52 - m.log2) < 2 ^ (m.log2 + 1) * 2 ^ (52 - m.log2) := Nat.mul_lt_mul_of_pos_right h1 (Nat.two_pow_pos _)
  rw [← Nat.pow_add, show m.log2 + 1 + (52 - m.log2) = 53 by omega] at h2
  have e5 : (2 : Nat) ^ 53 = 2 * B := by decide
  rw [e5] at h2
  exact h2

theorem near_int (s : Bool) (m : Nat) (h0 : m ≠ 0) (hl : m.log2 ≤ 40) : Ieee.double.nearest s m 0 = Ieee.double.word s ((m.log2 + 1022) * B + m * 2 ^ (52 - m.log2)) := by
  unfold Format.nearest
  simp only [h0, if_false, fr_eq, lp_eq, B_eq, inf_eq]
  have e0 : max (0 + (m.log2 : Int) - 52) (-1074) = (m.log2 : Int) - 52 := by omega
  rw [e0]
  have e1 : (0 - ((m.log2 : Int) - 52)).toNat = 52 - m.log2 := by omega
  have e2 : ((m.log2 : Int) - 52 - 0).toNat = 0 := by omega
  have e3 : ((m.log2 : Int) - 52 - -1074).toNat = m.log2 + 1022 := by omega
  rw [e1, e2, e3, even_cut_zero, Nat.shiftLeft_eq]
  have hk := shift_hi m (by omega)
  have e5 : (2 : Nat) ^ 53 = 2 * B := by decide
  have hr := rung_bound (m.log2 + 1022) (m * 2 ^ (52 - m.log2)) (by omega) (by rw [e5]; exact Nat.le_of_lt hk)
  rw [Nat.min_eq_left (Nat.le_of_lt hr)]

theorem read_int (s : Bool) (m : Nat) (h0 : m ≠ 0) (hl : m.log2 ≤ 40) : Ieee.double.read (Ieee.double.nearest s m 0) = .number s (m * 2 ^ (52 - m.log2)) ((m.log2 : Int) - 52) := by
  rw [near_int s m h0 hl]
  have h1 := shift_lo m h0 (by omega)
  have h2 := shift_hi m (show m.log2 ≤ 52 by omega)
  have e5 : (2 : Nat) ^ 53 = 2 * B := by decide
  have hr := rung_bound (m.log2 + 1022) (m * 2 ^ (52 - m.log2)) (by omega) (by rw [e5]; exact Nat.le_of_lt h2)
  rw [read_word _ _ (Nat.le_of_lt hr)]
  have hB := B_pos
  generalize m * 2 ^ (52 - m.log2) = K at *
  have hq : ∃ q : Nat, q = m.log2 + 1022 := ⟨_, rfl⟩
  obtain ⟨q, hq⟩ := hq
  rw [← hq] at hr ⊢
  have hi : (m.log2 : Int) - 52 = -1074 + (q : Int) := by omega
  rw [hi]
  clear hq hi h0 hl
  generalize hb : B = b at *
  have h3 : ¬ q * b + K < b := by
    have : b ≤ q * b + K := Nat.le_trans h1 (Nat.le_add_left _ _)
    omega
  rw [if_neg h3, if_pos hr]
  have e : q * b + K = (K - b) + (q + 1) * b := by
    rw [Nat.succ_mul]
    omega
  have em : (q * b + K) % b = K - b := by
    rw [e, Nat.add_mul_mod_self_right]
    exact Nat.mod_eq_of_lt (by omega)
  have ed : (q * b + K) / b = q + 1 := by
    rw [e, Nat.add_mul_div_right _ _ hB, Nat.div_eq_of_lt (by omega)]; omega
  rw [em, ed, show b + (K - b) = K by omega, show q + 1 - 1 = q by omega]

/-- a number of the format, in units of its least place -/
def val (m : Nat) (i : Int) : Nat := m * 2 ^ (i + 1074).toNat
def sgn (s : Bool) (v : Nat) : Int := if s then -(v : Int) else (v : Int)
theorem signed_eq (s : Bool) (m up : Nat) : signed s m up = sgn s (m * 2 ^ up) := by unfold signed sgn; rw [Nat.shiftLeft_eq]
theorem sgn_mul (s : Bool) (v c : Nat) : sgn s (v * c) = sgn s v * (c : Int) := by
  unfold sgn
  cases s
  · simp
  · simp [Int.neg_mul]
theorem cmp_mul (a b : Int) (c : Nat) (hc : 0 < c) : compare (a * (c : Int)) (b * (c : Int)) = compare a b := by
  have hc' : (0 : Int) < (c : Int) := by omega
  have e : ∀ x y : Int, compare x y = if x < y then .lt else if x = y then .eq else .gt := fun x y => rfl
  rw [e, e]
  by_cases h1 : a < b
  · rw [if_pos h1, if_pos (Int.mul_lt_mul_of_pos_right h1 hc')]
  · by_cases h2 : a = b
    · rw [if_neg h1, if_pos h2, h2, if_neg (Int.lt_irrefl _), if_pos rfl]
    · have h3 : b < a := by omega
      have h4 := Int.mul_lt_mul_of_pos_right h3 hc'
      rw [if_neg h1, if_neg h2, if_neg (by omega), if_neg (by omega)]

theorem order_val (s t : Bool) (m n : Nat) (i j : Int) (hi : -1074 ≤ i) (hj : -1074 ≤ j) : Datum.order (.number s m i) (.number t n j) = some (compare (sgn s (val m i)) (sgn t (val n j))) := by
  simp only [Datum.order, signed_eq]
  have hc : 0 < 2 ^ (min i j + 1074).toNat := Nat.two_pow_pos _
  have e1 : val m i = m * 2 ^ (i - min i j).toNat * 2 ^ (min i j + 1074).toNat := by
    unfold val; rw [Nat.mul_assoc, ← Nat.pow_add, show (i - min i j).toNat + (min i j + 1074).toNat = (i + 1074).toNat by omega]
  have e2 : val n j = n * 2 ^ (j - min i j).toNat * 2 ^ (min i j + 1074).toNat := by
    unfold val; rw [Nat.mul_assoc, ← Nat.pow_add, show (j - min i j).toNat + (min i j + 1074).toNat = (j + 1074).toNat by omega]
  rw [e1, e2, sgn_mul s (m * 2 ^ (i - min i j).toNat) (2 ^ (min i j + 1074).toNat), sgn_mul t (n * 2 ^ (j - min i j).toNat) (2 ^ (min i j + 1074).toNat), cmp_mul _ _ _ hc]

/-- the word of an integer -/
def N (n : Int) : Nat := Ieee.double.nearest (decide (n < 0)) n.natAbs 0

/-- what the word of an integer stands for -/
theorem read_N (z : Nat) (hz : z = 1074) (n : Int) (h : n.natAbs < 1099511627776) : ∃ m i, Ieee.double.read (N n) = .number (decide (n < 0)) m i ∧ -1074 ≤ i ∧ i ≤ -10 ∧ m < 2 * B ∧ val m i = n.natAbs * 2 ^ z ∧ (n ≠ 0 → B ≤ m ∧ -52 ≤ i) := by
  by_cases h0 : n = 0
  · subst h0
    refine ⟨0, -1074, ?_, by omega, by omega, Nat.mul_pos (by decide) B_pos, ?_, fun h => absurd rfl h⟩
    · have e : N 0 = Ieee.double.word false 0 := rfl
      rw [e, read_word false 0 (Nat.zero_le _), if_pos B_pos]
      rfl
    · unfold val; rw [Nat.zero_mul]; exact (Nat.zero_mul _).symm
  · have h0' : n.natAbs ≠ 0 := by omega
    have hl : n.natAbs.log2 ≤ 39 := by
      have : n.natAbs.log2 < 40 := (Nat.log2_lt h0').2 (Nat.lt_of_lt_of_le h (by decide))
      omega
    refine ⟨_, _, read_int (decide (n < 0)) n.natAbs h0' (by omega), by omega, by omega, shift_hi _ (by omega), ?_, fun _ => ⟨shift_lo _ h0' (by omega), by omega⟩⟩
    unfold val
    rw [Nat.mul_assoc, ← Nat.pow_add, show 52 - n.natAbs.log2 + ((n.natAbs.log2 : Int) - 52 + 1074).toNat = z by omega]

/-- the value of a finite word, in units of the least place -/
def fv (x : Nat) : Int := match Ieee.double.read x with
  | .number s m i => sgn s (val m i)
  | _ => 0
theorem fv_read {x : Nat} {s m i} (h : Ieee.double.read x = .number s m i) : fv x = sgn s (val m i) := by unfold fv; rw [h]

theorem read_eq (x : Nat) : Ieee.double.read x = if x % (2048 * B) < B then .number (x / (2048 * B) % 2 == 1) (x % (2048 * B)) (-1074) else if x % (2048 * B) < 2047 * B then .number (x / (2048 * B) % 2 == 1) (B + x % (2048 * B) % B) (-1074 + ((x % (2048 * B) / B - 1 : Nat) : Int)) else if x % (2048 * B) = 2047 * B then .infinity (x / (2048 * B) % 2 == 1) else .nan (x / (2048 * B) % 2 == 1) (x % (2048 * B) - 2047 * B) := rfl
/-- a finite word's parts -/
theorem read_parts {x : Nat} (hx : x < 4096 * B) {s m i} (h : Ieee.double.read x = .number s m i) :
    -1074 ≤ i ∧ m < 2 * B ∧ (m < B → i = -1074) ∧ x = Ieee.double.word s (if m < B then m else (i + 1074 + 1).toNat * B + (m - B)) := by
  rw [read_eq] at h
  have hB := B_pos
  have hs : x / (2048 * B) < 2 := (Nat.div_lt_iff_lt_mul (Nat.mul_pos (by decide) hB)).2 (by clear h; generalize B = b at *; omega)
  have hr : x % (2048 * B) < 2048 * B := Nat.mod_lt _ (Nat.mul_pos (by decide) hB)
  have hd := Nat.div_add_mod x (2048 * B)
  have hsm : x / (2048 * B) % 2 = x / (2048 * B) := Nat.mod_eq_of_lt hs
  rw [hsm] at h
  have hw : ∀ s : Bool, (x / (2048 * B) == 1) = s → x = Ieee.double.word s (x % (2048 * B)) := by
    intro s e
    unfold Format.word
    rw [sw_eq]
    cases s
    · rw [if_neg Bool.false_ne_true]
      have : x / (2048 * B) = 0 := by
        have : ¬ x / (2048 * B) = 1 := by simpa using e
        omega
      rw [this, Nat.mul_zero, Nat.zero_add] at hd
      exact hd.symm
    · rw [if_pos rfl]
      have : x / (2048 * B) = 1 := by simpa using e
      rw [this, Nat.mul_one] at hd
      exact hd.symm
  obtain ⟨r, er⟩ : ∃ r, r = x % (2048 * B) := ⟨_, rfl⟩
  by_cases h1 : x % (2048 * B) < B
  · rw [if_pos h1] at h
    injection h with a b c
    subst b; subst c
    refine ⟨by omega, by omega, fun _ => rfl, ?_⟩
    rw [if_pos h1]
    exact hw s a
  · rw [if_neg h1] at h
    by_cases h2 : x % (2048 * B) < 2047 * B
    · rw [if_pos h2] at h
      injection h with a b c
      have hw := hw s a
      rw [← er] at h1 h2 b c hw
      have hm : r % B < B := Nat.mod_lt _ hB
      have h1' : 1 ≤ r / B := (Nat.one_le_div_iff hB).2 (by omega)
      refine ⟨by omega, by omega, fun h => absurd h (by omega), ?_⟩
      rw [if_neg (by omega), ← b, show (i + 1074 + 1).toNat = r / B by omega, show B + r % B - B = r % B by omega, Nat.mul_comm, Nat.div_add_mod]
      exact hw
    · rw [if_neg h2] at h
      by_cases h3 : x % (2048 * B) = 2047 * B
      · rw [if_pos h3] at h; cases h
      · rw [if_neg h3] at h; cases h

theorem order_fin {u v : Nat} (hu : u < 4096 * B) (hv : v < 4096 * B) (fu : Fin u) (fw : Fin v) : Ieee.double.order u v = some (compare (fv u) (fv v)) := by
  obtain ⟨s, m, i, hu'⟩ := fu
  obtain ⟨t, n, j, hv'⟩ := fw
  have h1 := read_parts hu hu'
  have h2 := read_parts hv hv'
  unfold Format.order
  rw [fv_read hu', fv_read hv', hu', hv']
  exact order_val s t m n i j h1.1 h2.1

/-- two finite words of one value that is not nought are one word -/
theorem canon {u v : Nat} (hu : u < 4096 * B) (hv : v < 4096 * B) (fu : Fin u) (fw : Fin v) (he : fv u = fv v) (h0 : fv u ≠ 0) : u = v := by
  obtain ⟨s, m, i, hu'⟩ := fu
  obtain ⟨t, n, j, hv'⟩ := fw
  obtain ⟨a1, a2, a3, a4⟩ := read_parts hu hu'
  obtain ⟨b1, b2, b3, b4⟩ := read_parts hv hv'
  rw [fv_read hu', fv_read hv'] at he
  rw [fv_read hu'] at h0
  have hsv : s = t ∧ val m i = val n j ∧ val m i ≠ 0 := by
    unfold sgn at he h0
    cases s <;> cases t <;> simp at he h0 <;> refine ⟨?_, ?_, ?_⟩ <;> first | rfl | omega
  obtain ⟨e1, e2, e3⟩ := hsv
  subst e1
  unfold val at e2 e3
  have key : ∀ (m n : Nat) (i j : Int), m < 2 * B → -1074 ≤ i → -1074 ≤ j → (n < B → j = -1074) → m * 2 ^ (i + 1074).toNat = n * 2 ^ (j + 1074).toNat → n * 2 ^ (j + 1074).toNat ≠ 0 → j ≤ i := by
    intro m n i j hm hi hj hn e hz
    refine Int.not_lt.1 fun hlt => ?_
    have ej : (j + 1074).toNat = (j - i).toNat + (i + 1074).toNat := by omega
    rw [ej, Nat.pow_add, ← Nat.mul_assoc] at e
    have e' : m = n * 2 ^ (j - i).toNat := Nat.eq_of_mul_eq_mul_right (Nat.two_pow_pos _) e
    have hnB : B ≤ n := Nat.not_lt.1 fun h => by have := hn h; omega
    have h2 : 2 ^ 1 ≤ 2 ^ (j - i).toNat := Nat.pow_le_pow_right (by decide) (by omega)
    have h3 : B * 2 ^ 1 ≤ n * 2 ^ (j - i).toNat := Nat.mul_le_mul hnB h2
    rw [← e', Nat.pow_one] at h3
    omega
  have k1 := key m n i j a2 a1 b1 b3 e2 (e2 ▸ e3)
  have k2 := key n m j i b2 b1 a1 a3 e2.symm e3
  have hij : i = j := by omega
  subst hij
  have hmn : m = n := Nat.eq_of_mul_eq_mul_right (Nat.two_pow_pos _) e2
  subst hmn
  rw [a4, b4]

theorem W64 : (4096 * B : Nat) = 2 ^ Ieee.double.width := by decide
theorem N_lt (n : Int) : N n < 4096 * B := by rw [W64]; exact Format.nearest_lt _ _ _ _

theorem N_fin (n : Int) (h : n.natAbs < 1099511627776) : Fin (N n) := by
  obtain ⟨z, hz⟩ : ∃ z : Nat, z = 1074 := ⟨_, rfl⟩
  obtain ⟨m, i, hr, _⟩ := read_N z hz n h
  exact ⟨_, _, _, hr⟩
theorem fv_N (z : Nat) (hz : z = 1074) (n : Int) (h : n.natAbs < 1099511627776) : fv (N n) = n * ((2 ^ z : Nat) : Int) := by
  obtain ⟨m, i, hr, _, _, _, hv, _⟩ := read_N z hz n h
  rw [fv_read hr, hv, sgn_mul]
  congr 1
  unfold sgn
  by_cases hn : n < 0
  · rw [decide_eq_true hn, if_pos rfl]; omega
  · rw [decide_eq_false hn, if_neg Bool.false_ne_true]; omega
theorem order_N (x y : Int) (hx : x.natAbs < 1099511627776) (hy : y.natAbs < 1099511627776) : Ieee.double.order (N x) (N y) = some (compare x y) := by
  obtain ⟨z, hz⟩ : ∃ z : Nat, z = 1074 := ⟨_, rfl⟩
  rw [order_fin (N_lt x) (N_lt y) (N_fin x hx) (N_fin y hy), fv_N z hz x hx, fv_N z hz y hy, cmp_mul _ _ _ (Nat.two_pow_pos z)]

theorem icmp (x y : Int) : compare x y = if x < y then .lt else if x = y then .eq else .gt := rfl

/-- a word that is no NaN's equals itself -/
theorem order_self {x : Nat} (h : NN x) : Ieee.double.order x x = some .eq := by
  unfold Format.order
  cases e : Ieee.double.read x with
  | number s m i =>
    simp only [Datum.order]
    rw [icmp, if_neg (Int.lt_irrefl _), if_pos rfl]
  | infinity s => cases s <;> rfl
  | nan s t => exact absurd e (h s t)

end Go.Proofs.Ybulkbptg.Fl
