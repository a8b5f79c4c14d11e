/-
  Plain facts on the words of binary64: no Go in sight.
-/
import Derived.Laws.FloatBits
namespace Go.Proofs.Ybulkbptg.Fl
open Ieee
set_option linter.unusedVariables false

/-- rungs to a binade -/
def B : Nat := 4503599627370496
theorem B_eq : Ieee.double.binade = B := rfl
theorem inf_eq : Ieee.double.infRung = 2047 * B := rfl
theorem sw_eq : Ieee.double.signWeight = 2048 * B := rfl
theorem lp_eq : Ieee.double.leastPlace = -1074 := rfl
theorem B_pos : 0 < B := by decide
theorem B_pow : B = 2 ^ 52 := by decide

/-- what the word of a rung that is no NaN's stands for -/
theorem read_word (s : Bool) (r : Nat) (h : r ≤ 2047 * B) : Ieee.double.read (Ieee.double.word s r) =
    if r < B then .number s r (-1074) else if r < 2047 * B then .number s (B + r % B) (-1074 + ((r / B - 1 : Nat) : Int)) else .infinity s := by
  have hB := B_pos
  have e1 : Ieee.double.word s r / (2048 * B) % 2 = s.toNat := by
    unfold Format.word
    rw [sw_eq]
    cases s
    · simp only [Bool.false_eq_true, if_false, Bool.toNat_false]
      rw [Nat.div_eq_of_lt (by omega)]
    · simp only [if_true, Bool.toNat_true]
      have : (2048 * B + r) / (2048 * B) = 1 := by
        rw [Nat.add_div_left _ (by omega), Nat.div_eq_of_lt (by omega)]
      rw [this]
  have e2 : Ieee.double.word s r % (2048 * B) = r := by
    unfold Format.word
    rw [sw_eq]
    cases s
    · simp only [Bool.false_eq_true, if_false]
      exact Nat.mod_eq_of_lt (by omega)
    · simp only [if_true]
      rw [Nat.add_mod_left]
      exact Nat.mod_eq_of_lt (by omega)
  unfold Format.read
  simp only [sw_eq, B_eq, inf_eq, lp_eq, e1, e2]
  have e3 : (s.toNat == 1) = s := by cases s <;> rfl
  rw [e3]
  by_cases h1 : r < B
  · rw [if_pos h1, if_pos h1]
  · rw [if_neg h1, if_neg h1]
    by_cases h2 : r < 2047 * B
    · rw [if_pos h2, if_pos h2]
    · rw [if_neg h2, if_neg h2, if_pos (by omega)]

/-- a word that is no NaN's -/
def NN (x : Nat) : Prop := ∀ s t, Ieee.double.read x ≠ .nan s t
/-- a finite number's word -/
def Fin (x : Nat) : Prop := ∃ s m i, Ieee.double.read x = .number s m i

theorem Fin.nn {x : Nat} (h : Fin x) : NN x := fun s t e => by
  obtain ⟨s', m, i, h⟩ := h
  rw [h] at e; cases e

theorem word_nn (s : Bool) (r : Nat) (h : r ≤ 2047 * B) : NN (Ieee.double.word s r) := fun a b e => by
  rw [read_word s r h] at e
  by_cases h1 : r < B
  · rw [if_pos h1] at e; cases e
  · rw [if_neg h1] at e
    by_cases h2 : r < 2047 * B
    · rw [if_pos h2] at e; cases e
    · rw [if_neg h2] at e; cases e
theorem word_fin (s : Bool) (r : Nat) (h : r < 2047 * B) : Fin (Ieee.double.word s r) := by
  have := read_word s r (by omega)
  by_cases h1 : r < B
  · rw [if_pos h1] at this; exact ⟨_, _, _, this⟩
  · rw [if_neg h1, if_pos h] at this; exact ⟨_, _, _, this⟩

theorem near_nn (s : Bool) (m : Nat) (p : Int) : NN (Ieee.double.nearest s m p) := by
  unfold Format.nearest
  by_cases h : m = 0
  · simp only [h, if_true]; exact word_nn s 0 (Nat.zero_le _)
  · simp only [h, if_false]
    exact word_nn s _ (Nat.min_le_right _ _)
theorem write_nn {d : Datum} (h : d.isNaN = false) : NN (Ieee.double.write d) := by
  cases d with
  | number s m p => exact near_nn s m p
  | infinity s => exact word_nn s _ (Nat.le_refl _)
  | nan s t => cases h

theorem fr_eq : (Ieee.double.fractionBits : Int) = 52 := rfl

theorem even_cut_zero (s : Bool) (n : Nat) : Toward.even.cut s n 0 = n := by
  unfold Toward.cut
  simp only [Nat.zero_min, Nat.shiftLeft_zero, Nat.div_one, Nat.mod_one]
  rfl
theorem even_cut_le (s : Bool) (n d K : Nat) (h : n / 2 ^ min d (n.log2 + 2) + 1 ≤ K) : Toward.even.cut s n d ≤ K := by
  unfold Toward.cut
  rw [Nat.shiftLeft_eq, Nat.one_mul]
  refine Nat.le_trans (Nat.add_le_add_left ?_ _) h
  exact Bool.toNat_le _

theorem cut_bound (s : Bool) (m : Nat) (p last : Int) (h : p + (m.log2 : Int) - 52 ≤ last) : Toward.even.cut s (m <<< (p - last).toNat) (last - p).toNat ≤ 2 ^ 53 := by
  have hm : m < 2 ^ (m.log2 + 1) := Nat.lt_log2_self
  by_cases hp : last ≤ p
  · have e1 : (last - p).toNat = 0 := by omega
    rw [e1, even_cut_zero, Nat.shiftLeft_eq]
    have h1 : m * 2 ^ (p - last).toNat < 2 ^ (m.log2 + 1) * 2 ^ (p - last).toNat := Nat.mul_lt_mul_of_pos_right hm (Nat.two_pow_pos _)
    rw [← Nat.pow_add] at h1
    have e3 : m.log2 + 1 + (p - last).toNat ≤ 53 := by omega
    exact Nat.le_of_lt (Nat.lt_of_lt_of_le h1 (Nat.pow_le_pow_right (by decide) e3))
  · have e1 : (p - last).toNat = 0 := by omega
    rw [e1, Nat.shiftLeft_zero]
    refine even_cut_le _ _ _ _ ?_
    have hg : m.log2 + 1 ≤ 53 + min (last - p).toNat (m.log2 + 2) := by omega
    have h1 : m < 2 ^ 53 * 2 ^ min (last - p).toNat (m.log2 + 2) := by
      rw [← Nat.pow_add]
      exact Nat.lt_of_lt_of_le hm (Nat.pow_le_pow_right (by decide) hg)
    exact (Nat.div_lt_iff_lt_mul (Nat.two_pow_pos _)).2 h1

theorem rung_bound (q k : Nat) (hq : q ≤ 2022) (hk : k ≤ 2 ^ 53) : q * B + k < 2047 * B := by
  have e5 : (2 : Nat) ^ 53 = 2 * B := by decide
  have h1 : q * B ≤ 2022 * B := Nat.mul_le_mul_right _ hq
  rw [e5] at hk
  have hB := B_pos
  generalize B = b at *
  omega

/-- no number of moderate size is rounded to infinity -/
theorem near_fin (s : Bool) (m : Nat) (p : Int) (h : (m.log2 : Int) + p ≤ 1000) : Fin (Ieee.double.nearest s m p) := by
  unfold Format.nearest
  by_cases h0 : m = 0
  · simp only [h0, if_true]; exact word_fin s 0 (Nat.mul_pos (by decide) B_pos)
  · simp only [h0, if_false, fr_eq, lp_eq, B_eq, inf_eq]
    have hk := cut_bound s m p (max (p + (m.log2 : Int) - 52) (-1074)) (by omega)
    have hl : (max (p + (m.log2 : Int) - 52) (-1074) - -1074).toNat ≤ 2022 := by omega
    have hr := rung_bound _ _ hl hk
    rw [Nat.min_eq_left (Nat.le_of_lt hr)]
    exact word_fin s _ hr

end Go.Proofs.Ybulkbptg.Fl
