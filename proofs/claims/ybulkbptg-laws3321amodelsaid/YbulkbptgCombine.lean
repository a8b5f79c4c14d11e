/-
  combine: its contract.
-/
import Derived.Test.YbulkbptgMarket
import Derived.Test.YbulkbptgFloatC
namespace Go.Proofs.Ybulkbptg
open Go.RowKit
set_option linter.unusedVariables false
set_option linter.unusedSimpArgs false

/-- what a market's way leaves ahead of the threshold -/
def baseW (sm hr g1 g2 : Bool) (s M lo : Nat) : Nat := if sm then s else if !hr || (g1 && g2) then M else lo
/-- and behind it -/
def outW (ht g3 g4 : Bool) (base p : Nat) : Nat := if ht && (g3 && g4) then p else base

set_option maxRecDepth 100000 in
set_option maxHeartbeats 8000000 in
theorem combine (b c k : Nat) (sm hr ht g1 g2 g3 g4 : Bool) (low high : Int) (x y z dv tw mu lo hi s q M d r p : Nat) (w : World) (hm : Mk w b c k sm hr low high dv ht tw mu)
    (hmin : ∀ (ts : Array TypeId) (t : TypeId) (W : World), (Builtin.min_ ts t #[.float .f64 x, .float .f64 y]).run Yba.prog W = .ok (.float .f64 lo) W)
    (hmax : ∀ (ts : Array TypeId) (t : TypeId) (W : World), (Builtin.max_ ts t #[.float .f64 x, .float .f64 y]).run Yba.prog W = .ok (.float .f64 hi) W)
    (hpick : ∀ (ts : Array TypeId) (t : TypeId) (W : World), (Builtin.max_ ts t #[.float .f64 lo, .float .f64 q]).run Yba.prog W = .ok (.float .f64 M) W)
    (hadd : ∀ W, (binOp .add 25 (.float .f64 x) (.float .f64 y)).run Yba.prog W = .ok (.float .f64 s) W)
    (hquo : ∀ W, (binOp .quo 25 (.float .f64 hi) (.float .f64 dv)).run Yba.prog W = .ok (.float .f64 q) W)
    (hsub : ∀ W, (binOp .sub 25 (.float .f64 hi) (.float .f64 lo)).run Yba.prog W = .ok (.float .f64 d) W)
    (hrat : g3 = true → ∀ W, (binOp .quo 25 (.float .f64 d) (.float .f64 hi)).run Yba.prog W = .ok (.float .f64 r) W)
    (hmul : ∀ W, (binOp .mul 25 (.float .f64 (baseW sm hr g1 g2 s M lo)) (.float .f64 mu)).run Yba.prog W = .ok (.float .f64 p) W)
    (hg1 : (FloatKind.f64.format.order z (floatOfInt .f64 low) == some .gt || FloatKind.f64.format.order z (floatOfInt .f64 low) == some .eq) = g1)
    (hg2 : (FloatKind.f64.format.order z (floatOfInt .f64 high) == some .lt || FloatKind.f64.format.order z (floatOfInt .f64 high) == some .eq) = g2)
    (hg3 : (FloatKind.f64.format.order hi 0 == some .gt) = g3)
    (hg4 : (FloatKind.f64.format.order r tw == some .lt || FloatKind.f64.format.order r tw == some .eq) = g4) :
    Calls Yba.prog 8 #[.float .f64 x, .float .f64 y, .float .f64 z, .pointer (some ⟨b, 0, none⟩)] w fun e w' => e = .returned (.float .f64 (outW ht g3 g4 (baseW sm hr g1 g2 s M lo) p)) ∧ w' = w := by
  obtain ⟨h1, h2, h3, h4, h5, h6, h7, h8⟩ := hm
  have hX : sm = true ∨ (sm = false ∧ hr = false) ∨ (sm = false ∧ hr = true ∧ g1 = false) ∨ (sm = false ∧ hr = true ∧ g1 = true ∧ g2 = false) ∨ (sm = false ∧ hr = true ∧ g1 = true ∧ g2 = true) := by
    cases sm <;> cases hr <;> cases g1 <;> cases g2 <;> simp
  have hY : ht = false ∨ (ht = true ∧ g3 = false) ∨ (ht = true ∧ g3 = true ∧ g4 = false) ∨ (ht = true ∧ g3 = true ∧ g4 = true) := by
    cases ht <;> cases g3 <;> cases g4 <;> simp
  generalize hpr : (if hr = true then some (⟨c, 0, none⟩ : Addr) else none) = pr at h3
  rcases hX with rfl | ⟨rfl, rfl⟩ | ⟨rfl, rfl, rfl⟩ | ⟨rfl, rfl, rfl, rfl⟩ | ⟨rfl, rfl, rfl, rfl⟩
  · clear hpr h4 h5 hg1 hg2 hpick hquo
    rcases hY with rfl | ⟨rfl, rfl⟩ | ⟨rfl, rfl, rfl⟩ | ⟨rfl, rfl, rfl⟩
    all_goals
      simp only [wayOf, if_true, Bool.false_eq_true, if_false, forall_const, false_implies, baseW, outW, Bool.not_true, Bool.not_false, Bool.true_or, Bool.false_or, Bool.true_and, Bool.and_true, Bool.false_and, Bool.and_false] at h1 h6 h7 hrat hmul ⊢
      go_enter Yba.func8, Yba.ntmps8
      go_wp2
      go_ret
      exact ⟨rfl, rfl⟩
  all_goals
    simp only [Bool.false_eq_true, if_false, if_true] at hpr
    subst hpr
    rcases hY with rfl | ⟨rfl, rfl⟩ | ⟨rfl, rfl, rfl⟩ | ⟨rfl, rfl, rfl⟩
    all_goals
      simp only [wayOf, if_true, Bool.false_eq_true, if_false, forall_const, false_implies, baseW, outW, Bool.not_true, Bool.not_false, Bool.true_or, Bool.false_or, Bool.true_and, Bool.and_true, Bool.false_and, Bool.and_false] at h1 h4 h5 h6 h7 hrat hmul ⊢
      go_enter Yba.func8, Yba.ntmps8
      go_wp2
      go_ret
      exact ⟨rfl, rfl⟩
end Go.Proofs.Ybulkbptg
