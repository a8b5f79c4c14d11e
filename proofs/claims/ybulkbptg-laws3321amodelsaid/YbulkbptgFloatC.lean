/-
  Plain facts on the words of binary64, more: sums, products and quotients that are no NaN's.
-/
import Derived.Test.YbulkbptgFloatB
namespace Go.Proofs.Ybulkbptg.Fl
open Ieee
set_option linter.unusedVariables false

theorem log2_le {n k : Nat} (h : n < 2 ^ (k + 1)) : n.log2 ≤ k := by
  by_cases h0 : n = 0
  · subst h0; exact Nat.zero_le _
  · have := (Nat.log2_lt h0).2 h
    omega

theorem B53 : 2 * B = 2 ^ 53 := by decide

theorem sgn_abs (s : Bool) (v : Nat) : (sgn s v).natAbs = v := by unfold sgn; cases s <;> simp

theorem up_lt (m : Nat) (i base : Int) (hm : m < 2 * B) (hi : i ≤ -10) : m * 2 ^ (i - base).toNat < 2 ^ (53 + (-10 - base).toNat) := by
  rw [B53] at hm
  have h1 : m * 2 ^ (i - base).toNat < 2 ^ 53 * 2 ^ (i - base).toNat := Nat.mul_lt_mul_of_pos_right hm (Nat.two_pow_pos _)
  rw [← Nat.pow_add] at h1
  exact Nat.lt_of_lt_of_le h1 (Nat.pow_le_pow_right (by decide) (by omega))

theorem sum_fin (s t : Bool) (m n : Nat) (i j : Int) (hm : m < 2 * B) (hn : n < 2 * B) (hi : i ≤ -10) (hj : j ≤ -10) :
    ∃ r, (Datum.sum (.number s m i) (.number t n j)).map Ieee.double.write = some r ∧ Fin r ∧ r < 4096 * B := by
  simp only [Datum.sum, signed_eq, Option.map, Format.write]
  refine ⟨_, rfl, near_fin _ _ _ ?_, by rw [W64]; exact Format.nearest_lt _ _ _ _⟩
  have h1 := up_lt m i (min i j) hm hi
  have h2 := up_lt n j (min i j) hn hj
  generalize m * 2 ^ (i - min i j).toNat = a at *
  generalize n * 2 ^ (j - min i j).toNat = b at *
  have ha := sgn_abs s a
  have hb := sgn_abs t b
  have hab : (sgn s a + sgn t b).natAbs ≤ a + b := by omega
  have hp : (2 : Nat) ^ (53 + (-10 - min i j).toNat + 1) = 2 ^ (53 + (-10 - min i j).toNat) * 2 := Nat.pow_succ ..
  have hl : (sgn s a + sgn t b).natAbs < 2 ^ (53 + (-10 - min i j).toNat + 1) := by rw [hp]; omega
  have := log2_le hl
  omega

theorem mul_nn {x y : Nat} (hx : Fin x) (hy : Fin y) : ∃ r, Ieee.double.mul x y = some r ∧ NN r := by
  obtain ⟨s, m, i, h1⟩ := hx
  obtain ⟨t, n, j, h2⟩ := hy
  unfold Format.mul
  rw [h1, h2]
  exact ⟨_, rfl, near_nn _ _ _⟩

theorem div_nn {x y : Nat} (hx : Fin x) (hy : Fin y) (h0 : fv y ≠ 0) : ∃ r, Ieee.double.div x y = some r ∧ NN r := by
  obtain ⟨s, m, i, h1⟩ := hx
  obtain ⟨t, n, j, h2⟩ := hy
  have hn : n ≠ 0 := fun e => h0 (by rw [fv_read h2, e]; unfold val; rw [Nat.zero_mul]; cases t <;> rfl)
  unfold Format.div
  rw [h1, h2]
  simp only [Datum.quotient, if_neg hn]
  exact ⟨_, rfl, near_nn _ _ _⟩

theorem quot_fin (s t : Bool) (m n : Nat) (i j : Int) (hm : m < 2 * B) (hi : i ≤ -10) (hn : n ≠ 0) (hj : -52 ≤ j) :
    ∃ r, (Datum.quotient 54 (.number s m i) (.number t n j)).map Ieee.double.write = some r ∧ Fin r ∧ r < 4096 * B := by
  simp only [Datum.quotient, if_neg hn, Option.map, Format.write]
  refine ⟨_, rfl, near_fin _ _ _ ?_, by rw [W64]; exact Format.nearest_lt _ _ _ _⟩
  generalize 54 + n.log2 - m.log2 = more
  rw [Nat.shiftLeft_eq]
  have h1 : m * 2 ^ more < 2 ^ (53 + more) := by
    rw [Nat.pow_add, ← B53]
    exact Nat.mul_lt_mul_of_pos_right hm (Nat.two_pow_pos _)
  have h2 : m * 2 ^ more / n ≤ m * 2 ^ more := Nat.div_le_self _ _
  have h3 : (m * 2 ^ more % n != 0).toNat ≤ 1 := Bool.toNat_le _
  have hp : (2 : Nat) ^ (53 + more + 1) = 2 ^ (53 + more) * 2 := Nat.pow_succ ..
  have hl : 2 * (m * 2 ^ more / n) + (m * 2 ^ more % n != 0).toNat < 2 ^ (53 + more + 1) := by
    rw [hp]
    generalize m * 2 ^ more / n = q at *
    generalize (m * 2 ^ more % n != 0).toNat = c at *
    omega
  have := log2_le hl
  omega

theorem addN (a b : Int) (ha : a.natAbs < 1099511627776) (hb : b.natAbs < 1099511627776) : ∃ r, Ieee.double.add (N a) (N b) = some r ∧ Fin r ∧ r < 4096 * B := by
  obtain ⟨m, i, h1, h2, h3, h4, _⟩ := read_N _ rfl a ha
  obtain ⟨n, j, g1, g2, g3, g4, _⟩ := read_N _ rfl b hb
  unfold Format.add
  rw [h1, g1]
  exact sum_fin _ _ _ _ _ _ h4 g4 h3 g3
theorem subN (a b : Int) (ha : a.natAbs < 1099511627776) (hb : b.natAbs < 1099511627776) : ∃ r, Ieee.double.sub (N a) (N b) = some r ∧ Fin r ∧ r < 4096 * B := by
  obtain ⟨m, i, h1, h2, h3, h4, _⟩ := read_N _ rfl a ha
  obtain ⟨n, j, g1, g2, g3, g4, _⟩ := read_N _ rfl b hb
  unfold Format.sub
  rw [h1, g1]
  exact sum_fin _ _ _ _ _ _ h4 g4 h3 g3
theorem divN (a b : Int) (ha : a.natAbs < 1099511627776) (hb : b.natAbs < 1099511627776) (h0 : b ≠ 0) : ∃ r, Ieee.double.div (N a) (N b) = some r ∧ Fin r ∧ r < 4096 * B := by
  obtain ⟨m, i, h1, h2, h3, h4, _⟩ := read_N _ rfl a ha
  obtain ⟨n, j, g1, g2, g3, g4, _, g6⟩ := read_N _ rfl b hb
  unfold Format.div
  rw [h1, g1]
  have := g6 h0
  have hB := B_pos
  have e : Ieee.double.fractionBits + 2 = 54 := rfl
  rw [e]
  exact quot_fin _ _ _ _ _ _ h4 h3 (by omega) this.2

theorem fvN_ne (n : Int) (h : n.natAbs < 1099511627776) (h0 : n ≠ 0) : fv (N n) ≠ 0 := by
  obtain ⟨z, hz⟩ : ∃ z : Nat, z = 1074 := ⟨_, rfl⟩
  rw [fv_N z hz n h]
  have := Nat.two_pow_pos z
  exact Int.mul_ne_zero h0 (by omega)

/-- what max leaves of two words that stand so to each other -/
def pickMax (o : Ordering) (n : Bool) (x q : Nat) : Nat := match o with | .lt => q | .gt => x | .eq => if n then q else x
theorem pick_aux (A Q : Int) (x q : Nat) (n : Bool) (h : A = Q → (if n then q else x) = x) :
    pickMax (compare A Q) n x q = if (some (compare Q A) == some Ordering.gt) = true then q else x := by
  by_cases h1 : A < Q
  · have e1 : compare A Q = .lt := by rw [icmp, if_pos h1]
    have e2 : compare Q A = .gt := by rw [icmp, if_neg (by omega), if_neg (by omega)]
    rw [e1, e2]; rfl
  · by_cases h2 : A = Q
    · have e1 : compare A Q = .eq := by rw [icmp, if_neg h1, if_pos h2]
      have e2 : compare Q A = .eq := by rw [icmp, if_neg (by omega), if_pos h2.symm]
      rw [e1, e2]; exact h h2
    · have e1 : compare A Q = .gt := by rw [icmp, if_neg h1, if_neg h2]
      have e2 : compare Q A = .lt := by rw [icmp, if_pos (by omega)]
      rw [e1, e2]; rfl

theorem zero_neg (a : Int) (ha : a.natAbs < 1099511627776) (h3 : fv (N a) = 0) : (Ieee.double.read (N a)).neg = false := by
  obtain ⟨m, i, h, _⟩ := read_N _ rfl a ha
  have hz : a = 0 := Classical.byContradiction fun h => fvN_ne a ha h h3
  rw [h]
  exact decide_eq_false (by omega)

theorem max_pick' (x q : Nat) (hx : Fin x) (hxl : x < 4096 * B) (hn : fv x = 0 → (Ieee.double.read x).neg = false) (hq : Fin q) (hql : q < 4096 * B) :
    ∃ o, Ieee.double.order x q = some o ∧ pickMax o (Ieee.double.read x).neg x q = (if (Ieee.double.order q x == some .gt) = true then q else x) := by
  refine ⟨_, order_fin hxl hql hx hq, ?_⟩
  rw [order_fin hql hxl hq hx]
  refine pick_aux _ _ _ _ _ fun h2 => ?_
  by_cases h3 : fv x = 0
  · rw [hn h3]; rfl
  · have := canon hxl hql hx hq h2 h3
    rw [← this]
    split <;> rfl

/-- what max leaves of an integer's word and a finite word: the second where it is greater, else the first -/
theorem max_pick (a : Int) (q : Nat) (ha : a.natAbs < 1099511627776) (hq : Fin q) (hql : q < 4096 * B) :
    ∃ o, Ieee.double.order (N a) q = some o ∧ pickMax o (Ieee.double.read (N a)).neg (N a) q = (if (Ieee.double.order q (N a) == some .gt) = true then q else (N a)) :=
  max_pick' (N a) q (N_fin a ha) (N_lt a) (zero_neg a ha) hq hql

end Go.Proofs.Ybulkbptg.Fl
