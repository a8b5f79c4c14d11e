/-
  The words of LawS3321AModel.
-/
import Derived.Test.YbulkbptgModel
namespace Go.Proofs.Ybulkbptg
open Go.RowKit
open Fl
set_option linter.unusedVariables false

theorem foi (n : Int) : floatOfInt .f64 n = N n := rfl
theorem fmt64 : FloatKind.f64.format = Ieee.double := rfl
theorem bits_add (x y : Nat) : floatBits .add .f64 x y = Ieee.double.add x y := rfl
theorem bits_sub (x y : Nat) : floatBits .sub .f64 x y = Ieee.double.sub x y := rfl
theorem bits_mul (x y : Nat) : floatBits .mul .f64 x y = Ieee.double.mul x y := rfl
theorem bits_quo (x y : Nat) : floatBits .quo .f64 x y = Ieee.double.div x y := rfl

theorem oneN : (4607182418800017408 : Nat) = N 1 := by decide
theorem fourN : (4616189618054758400 : Nat) = N 4 := by decide
theorem add_one (k : Int) (h : 0 ≤ k ∧ k < 8) : Ieee.double.add (N k) (N 1) = some (N (k + 1)) := by
  rcases (show k = 0 ∨ k = 1 ∨ k = 2 ∨ k = 3 ∨ k = 4 ∨ k = 5 ∨ k = 6 ∨ k = 7 by omega) with rfl | rfl | rfl | rfl | rfl | rfl | rfl | rfl <;> kernel_rfl

theorem run_min {P : Program} (x y o : Nat) (h : Ieee.double.order x y = some .lt ∧ o = x ∨ Ieee.double.order x y = some .gt ∧ o = y ∨ Ieee.double.order x y = some .eq ∧ x = y ∧ o = x) (ts : Array TypeId) (t : TypeId) (W : World) :
    (Builtin.min_ ts t #[.float .f64 x, .float .f64 y]).run P W = .ok (.float .f64 o) W := by
  rcases h with ⟨h, rfl⟩ | ⟨h, rfl⟩ | ⟨h, rfl, rfl⟩
  · simp [Builtin.min_, Builtin.min2, fmt64, h]
  · simp [Builtin.min_, Builtin.min2, fmt64, h]
  · simp [Builtin.min_, Builtin.min2, fmt64, h]
theorem run_max {P : Program} (x y : Nat) (o : Ordering) (h : Ieee.double.order x y = some o) (ts : Array TypeId) (t : TypeId) (W : World) :
    (Builtin.max_ ts t #[.float .f64 x, .float .f64 y]).run P W = .ok (.float .f64 (pickMax o (Ieee.double.read x).neg x y)) W := by
  cases o
  · simp [Builtin.max_, Builtin.max2, fmt64, h, pickMax]
  · simp [Builtin.max_, Builtin.max2, fmt64, h, pickMax, FloatKind.decode]; rfl
  · simp [Builtin.max_, Builtin.max2, fmt64, h, pickMax]

theorem zeroN : (0 : Nat) = N 0 := by decide

theorem i32_abs {n : Int} (h : -2147483648 ≤ n ∧ n ≤ 2147483647) : n.natAbs < 1099511627776 := by omega

theorem model_all (sm hr ht : Bool) (a b c low high e8 t8 m8 : Int) (w : World) (ha : -2147483648 ≤ a ∧ a ≤ 2147483647) (hb : -2147483648 ≤ b ∧ b ≤ 2147483647) (hc : -2147483648 ≤ c ∧ c ≤ 2147483647)
    (hlo : -2147483648 ≤ low ∧ low ≤ 2147483647) (hhi : -2147483648 ≤ high ∧ high ≤ 2147483647) (he8 : 0 ≤ e8 ∧ e8 ≤ 255) (ht8 : 0 ≤ t8 ∧ t8 ≤ 255) (hm8 : -128 ≤ m8 ∧ m8 ≤ 127) :
    Calls Yba.prog 3 #[.int .i32 a, .int .i32 b, .int .i32 c, .agg #[.bool sm, .bool hr, .int .i32 low, .int .i32 high, .int .u8 e8, .bool ht, .int .u8 t8, .int .i8 m8]] w fun e w' => e = .returned (.bool true) ∧ Below w.heap.size w w' := by
  have ka := i32_abs ha
  have kb := i32_abs hb
  obtain ⟨l, hl⟩ : ∃ l, l = min a b := ⟨_, rfl⟩
  obtain ⟨h, hh⟩ : ∃ h, h = max a b := ⟨_, rfl⟩
  obtain ⟨n, hn⟩ : ∃ n, n = e8 % 8 + 1 := ⟨_, rfl⟩
  have kl : l.natAbs < 1099511627776 := by omega
  have kh : h.natAbs < 1099511627776 := by omega
  have kn : n.natAbs < 1099511627776 := by omega
  have kn0 : n ≠ 0 := by omega
  have km : m8.natAbs < 1099511627776 := by omega
  obtain ⟨s, es, fs, _⟩ := addN a b ka kb
  obtain ⟨tw, etw, ftw, _⟩ := divN (t8 % 5) 4 (by omega) (by decide) (by decide)
  obtain ⟨q, eq, fq, lq⟩ := divN h n kh kn kn0
  obtain ⟨d, ed, fd, _⟩ := subN h l kh kl
  obtain ⟨o, eo, epick⟩ := max_pick l q kl fq lq
  have eab := order_N a b ka kb
  have eba := order_N b a kb ka
  have eh0 : Ieee.double.order (N h) 0 = some (compare h 0) := by
    have := order_N h 0 kh (by decide)
    rw [← zeroN] at this
    exact this
  obtain ⟨r, er⟩ : ∃ r, 0 < h → Ieee.double.div d (N h) = some r := by
    by_cases h0 : 0 < h
    · obtain ⟨r, e, _⟩ := div_nn fd (N_fin h kh) (fvN_ne h kh (by omega))
      exact ⟨r, fun _ => e⟩
    · exact ⟨0, fun h => absurd h h0⟩
  obtain ⟨M, hM⟩ : ∃ M, M = if (Ieee.double.order q (N l) == some .gt) = true then q else N l := ⟨_, rfl⟩
  have fM : Fl.Fin M := by
    rw [hM]
    split
    · exact fq
    · exact N_fin l kl
  obtain ⟨bs, hbs⟩ : ∃ bs, bs = baseW sm hr (FloatKind.f64.format.order (floatOfInt .f64 c) (floatOfInt .f64 low) == some .gt || FloatKind.f64.format.order (floatOfInt .f64 c) (floatOfInt .f64 low) == some .eq) (FloatKind.f64.format.order (floatOfInt .f64 c) (floatOfInt .f64 high) == some .lt || FloatKind.f64.format.order (floatOfInt .f64 c) (floatOfInt .f64 high) == some .eq) s M (N l) := ⟨_, rfl⟩
  have fbs : Fl.Fin bs := by
    rw [hbs]
    unfold baseW
    split
    · exact fs
    · split
      · exact fM
      · exact N_fin l kl
  obtain ⟨p, ep, np⟩ := mul_nn fbs (N_fin m8 km)
  obtain ⟨F, hF⟩ : ∃ F, F = outW ht (FloatKind.f64.format.order (N h) 0 == some .gt) (FloatKind.f64.format.order r tw == some .lt || FloatKind.f64.format.order r tw == some .eq) bs p := ⟨_, rfl⟩
  have nF : NN F := by
    rw [hF]
    unfold outW
    split
    · exact np
    · exact fbs.nn
  refine model_walk sm hr ht _ _ _ _ _ _ a b c low high e8 t8 m8 (N n) tw (N l) (N h) s q M d r p bs F w hlo hhi he8 ht8 ?_ ?_ ?_ ?_ ?_ ?_ ?_ ?_ ?_ hbs hF ?_ rfl ?_ rfl rfl rfl rfl rfl hM (order_self nF)
  · intro ts t W
    refine run_min _ _ _ ?_ ts t W
    rw [foi, foi, eab, icmp]
    by_cases h1 : a < b
    · left; rw [if_pos h1]; exact ⟨rfl, by rw [hl, show min a b = a by omega]⟩
    · by_cases h2 : a = b
      · right; right; rw [if_neg h1, if_pos h2]; exact ⟨rfl, by rw [h2], by rw [hl, show min a b = a by omega]⟩
      · right; left; rw [if_neg h1, if_neg h2]; exact ⟨rfl, by rw [hl, show min a b = b by omega]⟩
  · intro ts t W
    rw [foi, foi, run_max _ _ _ eab ts t W, icmp]
    by_cases h1 : a < b
    · rw [if_pos h1, hh, show max a b = b by omega]; rfl
    · by_cases h2 : a = b
      · rw [if_neg h1, if_pos h2, hh, show max a b = a by omega, ← h2]
        unfold pickMax
        simp
      · rw [if_neg h1, if_neg h2, hh, show max a b = a by omega]; rfl
  · intro ts t W
    rw [run_max _ _ _ eo ts t W, epick, hM]
  · intro W
    refine run_float_arith W .add 25 .f64 _ _ _ ?_
    rw [bits_add, foi, oneN, add_one _ (by omega), hn]
  · intro W
    refine run_float_arith W .quo 25 .f64 _ _ _ ?_
    rw [bits_quo, foi, fourN, etw]
  · intro W
    exact run_float_arith W .add 25 .f64 _ _ _ es
  · intro W
    exact run_float_arith W .quo 25 .f64 _ _ _ eq
  · intro W
    exact run_float_arith W .sub 25 .f64 _ _ _ ed
  · intro g3 W
    refine run_float_arith W .quo 25 .f64 _ _ _ ?_
    rw [bits_quo]
    refine er ?_
    rw [fmt64, eh0, icmp] at g3
    refine Classical.byContradiction fun hx => ?_
    by_cases h1 : h < 0
    · rw [if_pos h1] at g3; cases g3
    · rw [if_neg h1, if_pos (by omega)] at g3; cases g3
  · intro W
    exact run_float_arith W .mul 25 .f64 _ _ _ ep
  · show if (Ieee.double.order (N b) (N a) == some .lt) = true then N l = N b ∧ N h = N a else N l = N a ∧ N h = N b
    rw [eba, icmp]
    by_cases h1 : b < a
    · rw [if_pos h1, if_pos (by decide), hl, hh, show min a b = b by omega, show max a b = a by omega]; exact ⟨rfl, rfl⟩
    · by_cases h2 : b = a
      · rw [if_neg h1, if_pos h2, if_neg (by decide), hl, hh, show min a b = a by omega, show max a b = b by omega]; exact ⟨rfl, rfl⟩
      · rw [if_neg h1, if_neg h2, if_neg (by decide), hl, hh, show min a b = a by omega, show max a b = b by omega]; exact ⟨rfl, rfl⟩

end Go.Proofs.Ybulkbptg
