/-
  LawS3321AModel: its walk.
-/
import Derived.Test.YbulkbptgCombine
import Derived.Deep.CutRange
namespace Go.Proofs.Ybulkbptg
open Go.RowKit
set_option linter.unusedVariables false
set_option linter.unusedSimpArgs false

set_option maxRecDepth 100000 in
set_option maxHeartbeats 8000000 in
theorem model_walk (sm hr ht g0 g1 g2 g3 g4 g5 : Bool) (a b c low high : Int) (e8 t8 m8 : Int) (dv tw lo hi s q M d r p bs F : Nat) (w : World)
    (hlo : -2147483648 ≤ low ∧ low ≤ 2147483647) (hhi : -2147483648 ≤ high ∧ high ≤ 2147483647)
    (he8 : 0 ≤ e8 ∧ e8 ≤ 255) (ht8 : 0 ≤ t8 ∧ t8 ≤ 255)
    (hmin : ∀ (ts : Array TypeId) (t : TypeId) (W : World), (Builtin.min_ ts t #[.float .f64 (floatOfInt .f64 a), .float .f64 (floatOfInt .f64 b)]).run Yba.prog W = .ok (.float .f64 lo) W)
    (hmax : ∀ (ts : Array TypeId) (t : TypeId) (W : World), (Builtin.max_ ts t #[.float .f64 (floatOfInt .f64 a), .float .f64 (floatOfInt .f64 b)]).run Yba.prog W = .ok (.float .f64 hi) W)
    (hpick : ∀ (ts : Array TypeId) (t : TypeId) (W : World), (Builtin.max_ ts t #[.float .f64 lo, .float .f64 q]).run Yba.prog W = .ok (.float .f64 M) W)
    (hdv : ∀ W, (binOp .add 25 (.float .f64 (floatOfInt .f64 (e8 % 8))) (.float .f64 4607182418800017408)).run Yba.prog W = .ok (.float .f64 dv) W)
    (htw : ∀ W, (binOp .quo 25 (.float .f64 (floatOfInt .f64 (t8 % 5))) (.float .f64 4616189618054758400)).run Yba.prog W = .ok (.float .f64 tw) W)
    (hadd : ∀ W, (binOp .add 25 (.float .f64 (floatOfInt .f64 a)) (.float .f64 (floatOfInt .f64 b))).run Yba.prog W = .ok (.float .f64 s) W)
    (hquo : ∀ W, (binOp .quo 25 (.float .f64 hi) (.float .f64 dv)).run Yba.prog W = .ok (.float .f64 q) W)
    (hsub : ∀ W, (binOp .sub 25 (.float .f64 hi) (.float .f64 lo)).run Yba.prog W = .ok (.float .f64 d) W)
    (hrat : g3 = true → ∀ W, (binOp .quo 25 (.float .f64 d) (.float .f64 hi)).run Yba.prog W = .ok (.float .f64 r) W)
    (hbs : Hid (bs = baseW sm hr g1 g2 s M lo)) (hF : Hid (F = outW ht g3 g4 bs p))
    (hmul : ∀ W, (binOp .mul 25 (.float .f64 bs) (.float .f64 (floatOfInt .f64 m8))).run Yba.prog W = .ok (.float .f64 p) W)
    (hg0 : (FloatKind.f64.format.order (floatOfInt .f64 b) (floatOfInt .f64 a) == some .lt) = g0)
    (hlh : Hid (if g0 then lo = floatOfInt .f64 b ∧ hi = floatOfInt .f64 a else lo = floatOfInt .f64 a ∧ hi = floatOfInt .f64 b))
    (hg1 : (FloatKind.f64.format.order (floatOfInt .f64 c) (floatOfInt .f64 low) == some .gt || FloatKind.f64.format.order (floatOfInt .f64 c) (floatOfInt .f64 low) == some .eq) = g1)
    (hg2 : (FloatKind.f64.format.order (floatOfInt .f64 c) (floatOfInt .f64 high) == some .lt || FloatKind.f64.format.order (floatOfInt .f64 c) (floatOfInt .f64 high) == some .eq) = g2)
    (hg3 : (FloatKind.f64.format.order hi 0 == some .gt) = g3)
    (hg4 : (FloatKind.f64.format.order r tw == some .lt || FloatKind.f64.format.order r tw == some .eq) = g4)
    (hg5 : (FloatKind.f64.format.order q lo == some .gt) = g5) (hM : Hid (M = if g5 then q else lo))
    (hself : FloatKind.f64.format.order F F = some .eq) :
    Calls Yba.prog 3 #[.int .i32 a, .int .i32 b, .int .i32 c, .agg #[.bool sm, .bool hr, .int .i32 low, .int .i32 high, .int .u8 e8, .bool ht, .int .u8 t8, .int .i8 m8]] w fun e w' => e = .returned (.bool true) ∧ Below w.heap.size w w' := by
  have HC := fun (W : World) (b' c' k' : Nat) (hm : Mk W b' c' k' sm hr low high dv ht tw (floatOfInt .f64 m8)) => combine b' c' k' sm hr ht g1 g2 g3 g4 low high _ _ _ dv tw _ lo hi s q M d r p W hm hmin hmax hpick hadd hquo hsub hrat (hbs.out ▸ hmul) hg1 hg2 hg3 hg4
  rw [← hbs.out, ← hF.out] at HC
  have HC : Hid (∀ (W : World) (b' c' k' : Nat) (hm : Mk W b' c' k' sm hr low high dv ht tw (floatOfInt .f64 m8)), _) := HC
  go_enter Yba.func3, Yba.ntmps3
  go_wp2_with fail
  refine (market sm hr ht low high dv tw (floatOfInt .f64 m8) _ hlo hhi).mono ?_
  rintro e w1 ⟨bm, cm, km, rfl, hb1, hm⟩
  have hc0 : w1.cell? ⟨w.heap.size, 0, none⟩ = some (.bool sm) := (hb1.cell (by simp)).trans (by simp)
  have hc1 : w1.cell? ⟨w.heap.size, 1, none⟩ = some (.bool hr) := (hb1.cell (by simp)).trans (by simp)
  have hc2 : w1.cell? ⟨w.heap.size, 2, none⟩ = some (.int .i32 low) := (hb1.cell (by simp)).trans (by simp)
  have hc3 : w1.cell? ⟨w.heap.size, 3, none⟩ = some (.int .i32 high) := (hb1.cell (by simp)).trans (by simp)
  have hc5 : w1.cell? ⟨w.heap.size, 5, none⟩ = some (.bool ht) := (hb1.cell (by simp)).trans (by simp)
  have hB : Hid (Below w.heap.size w w1) := ((Below.refl _ _).alloc (Nat.le_refl _) _).trans (hb1.mono (by simp))
  have HM : Hid (Mk w1 bm cm km sm hr low high dv ht tw (floatOfInt .f64 m8)) := hm
  clear hb1 hm
  go_wp2_with fail
  refine (HC.out w1 bm cm km HM.out).mono ?_
  rintro e w2 ⟨rfl, hw2⟩
  subst hw2
  clear HC HM
  go_upto_if 63 with fail
  go_cut [17, 18] from 64 to 66 (fun u v wx => u = .float .f64 lo ∧ v = .float .f64 hi ∧ wx = w2)
  case first =>
    cases g0
    · have h := hlh.out
      clear hlh
      simp only [Bool.false_eq_true, if_false] at h
      obtain ⟨rfl, rfl⟩ := h
      go_wp2
      go_meet
      exact ⟨rfl, rfl, rfl⟩
    · have h := hlh.out
      clear hlh
      simp only [if_true] at h
      obtain ⟨rfl, rfl⟩ := h
      go_wp2
      go_meet
      exact ⟨rfl, rfl, rfl⟩
  case rest =>
    obtain ⟨rfl, rfl, hwc⟩ := hcut
    subst hwc
    go_upto_if 67 with fail
    go_cut [19, 20] from 68 to 97 (fun u v wx => u = .float .f64 bs ∧ wx = wc)
    case first =>
      have hX : sm = true ∨ (sm = false ∧ hr = false ∧ g5 = false) ∨ (sm = false ∧ hr = false ∧ g5 = true) ∨ (sm = false ∧ hr = true ∧ g1 = false) ∨ (sm = false ∧ hr = true ∧ g1 = true ∧ g2 = false) ∨ (sm = false ∧ hr = true ∧ g1 = true ∧ g2 = true ∧ g5 = false) ∨ (sm = false ∧ hr = true ∧ g1 = true ∧ g2 = true ∧ g5 = true) := by
        cases sm <;> cases hr <;> cases g1 <;> cases g2 <;> cases g5 <;> simp
      clear hF hself hg0 hlh
      rcases hX with rfl | ⟨rfl, rfl, rfl⟩ | ⟨rfl, rfl, rfl⟩ | ⟨rfl, rfl, rfl⟩ | ⟨rfl, rfl, rfl, rfl⟩ | ⟨rfl, rfl, rfl, rfl, rfl⟩ | ⟨rfl, rfl, rfl, rfl, rfl⟩
      all_goals
        have hb := hbs.out
        rw [hM.out] at hb
        simp only [baseW, if_true, Bool.false_eq_true, if_false, Bool.not_true, Bool.not_false, Bool.true_or, Bool.false_or, Bool.true_and, Bool.and_true, Bool.false_and, Bool.and_false] at hb
        clear hbs hM
        subst hb
        go_wp2
        go_meet
        exact ⟨rfl, rfl⟩
    case rest =>
      obtain ⟨rfl, hwc⟩ := hcut
      subst hwc
      clear hg0 hlh hg1 hg2 hg5
      have hY : ht = false ∨ (ht = true ∧ g3 = false) ∨ (ht = true ∧ g3 = true ∧ g4 = false) ∨ (ht = true ∧ g3 = true ∧ g4 = true) := by
        cases ht <;> cases g3 <;> cases g4 <;> simp
      rcases hY with rfl | ⟨rfl, rfl⟩ | ⟨rfl, rfl, rfl⟩ | ⟨rfl, rfl, rfl⟩
      all_goals
        have hf := hF.out
        simp only [outW, if_true, Bool.false_eq_true, if_false, Bool.not_true, Bool.not_false, Bool.true_or, Bool.false_or, Bool.true_and, Bool.and_true, Bool.false_and, Bool.and_false] at hf
        clear hF hbs hM
        subst hf
        try simp only [forall_const, Bool.false_eq_true, false_implies] at hrat
        go_wp2
        go_ret
        exact ⟨by simp [hself], hB.out⟩
end Go.Proofs.Ybulkbptg
