/-
  zzs3321amarket: its contract.
-/
import Derived.Test.YbulkbptgProg
import Derived.WalkKit
import Derived.WalkLawsBesides
import Derived.Below
import Derived.OpenShut
namespace Go.Proofs.Ybulkbptg
open Go.RowKit
set_option linter.unusedVariables false

theorem run_store_float {P : Program} {w : World} {a : Addr} {m : Mode} (k : FloatKind) (n : Nat) : (store a (.float k n) m).run P w = stored P w a (.float k n) m := run_store P w a _ m rfl
attribute [local go_sem] run_store_float

/-- the two texts of a market's way to combine -/
def wayOf (sm : Bool) : ByteArray := if sm then ⟨#[115, 117, 109]⟩ else ⟨#[116, 119, 111, 95, 115, 105, 100, 101, 100]⟩

/-- a market as the model lays it: block b; the range in block c, the threshold in block d -/
structure Mk (w : World) (b c d : Nat) (sm hr : Bool) (lo hi : Int) (dv : Nat) (ht : Bool) (tw mu : Nat) : Prop where
  way : w.cell? ⟨b, 6, none⟩ = some (.string (wayOf sm))
  div : w.cell? ⟨b, 9, none⟩ = some (.float .f64 dv)
  rng : w.cell? ⟨b, 10, none⟩ = some (.pointer (if hr then some ⟨c, 0, none⟩ else none))
  low : hr = true → w.cell? ⟨c, 0, none⟩ = some (.int .i64 lo)
  high : hr = true → w.cell? ⟨c, 1, none⟩ = some (.int .i64 hi)
  thr : w.cell? ⟨b, 19, none⟩ = some (.pointer (if ht then some ⟨d, 0, none⟩ else none))
  thw : ht = true → w.cell? ⟨d, 0, none⟩ = some (.float .f64 tw)
  mul : w.cell? ⟨b, 20, none⟩ = some (.float .f64 mu)

set_option maxRecDepth 100000 in
set_option maxHeartbeats 4000000 in
theorem market (sm hr ht : Bool) (lo hi : Int) (dv tw mu : Nat) (w : World) (hlo : -2147483648 ≤ lo ∧ lo ≤ 2147483647) (hhi : -2147483648 ≤ hi ∧ hi ≤ 2147483647) :
    Calls Yba.prog 7 #[.bool sm, .bool hr, .int .i32 lo, .int .i32 hi, .float .f64 dv, .bool ht, .float .f64 tw, .float .f64 mu] w fun e w' => ∃ b c d, e = .returned (.pointer (some ⟨b, 0, none⟩)) ∧ Below w.heap.size w w' ∧ Mk w' b c d sm hr lo hi dv ht tw mu := by
  cases sm <;> cases hr <;> cases ht
  all_goals
    go_enter Yba.func7, Yba.ntmps7
    go_wp2
    go_ret
  all_goals
    first
    | exact ⟨w.heap.size, 0, 0, rfl, (Below.refl _ _).alloc (Nat.le_refl _) _, by
        constructor <;> first | (intro h; cases h; done) | simp [wayOf]⟩
    | exact ⟨w.heap.size, w.heap.size + 1, w.heap.size + 1, rfl, ((Below.refl _ _).alloc (Nat.le_refl _) _).alloc (by simp) _, by
        constructor <;> first | (intro h; cases h; done) | (simp [wayOf]; done) | (intro _; simp; done)⟩
    | exact ⟨w.heap.size, w.heap.size + 1, w.heap.size + 1 + 1, rfl, (((Below.refl _ _).alloc (Nat.le_refl _) _).alloc (by simp) _).alloc (by simp; omega) _, by
        constructor <;> first | (rw [World.cell?_alloc_past _ _ _ (by simp only [World.size_alloc]; omega)]; simp [wayOf]; done) | (intro _; rw [World.cell?_alloc_past _ _ _ (by simp only [World.size_alloc]; omega)]; simp; done) | (intro _; rw [World.cell?_alloc_at _ _ _ _ (by simp only [World.size_alloc])]; rfl)⟩
end Go.Proofs.Ybulkbptg
