/-
  mayBundle, runEnd's closure, the law's closure: contracts.
-/
import Derived.Test.YbulkbprcProg
import Derived.WalkKit
import Derived.WalkLawsBesides
import Derived.Below
import Derived.Deep.QuietTactic
import Derived.BigQuiet
namespace Go.Proofs.Ybulkbprc
open Go.RowKit
set_option linter.unusedVariables false

/-- what mayBundle answers -/
def mbB (kd rb sd ph : Bool) : Bool := !kd && !rb && (sd || !ph)

set_option maxRecDepth 100000 in
set_option maxHeartbeats 1000000 in
theorem may_any (br bc bp bn s : Nat) (kd rb sd ph : Bool) (w : World) (hs : s < 3)
    (r1 : w.cell? ⟨br, 1, none⟩ = some (.pointer (some ⟨bc, 0, none⟩))) (r11 : w.cell? ⟨br, 14, none⟩ = some (.bool kd)) (r26 : w.cell? ⟨br, 29, none⟩ = some (.pointer none)) (r50 : w.cell? ⟨br, 71, none⟩ = some (.bool rb))
    (c0 : w.cell? ⟨bc, 0, none⟩ = some (.pointer (some ⟨bp, 0, none⟩))) (c2 : w.cell? ⟨bc, 2, none⟩ = some (.int .i32 s)) (c24 : w.cell? ⟨bc, 24, none⟩ = some (.bool sd))
    (p1 : w.cell? ⟨bp, 1, none⟩ = some (.slice (some ⟨bn, 0, none⟩) 3 3)) (n18 : w.cell? ⟨bn, s * 20 + 18, none⟩ = some (.bool ph)) :
    Calls Yba.prog 12 #[.pointer (some ⟨br, 0, none⟩)] w fun e w' => e = .returned (.bool (mbB kd rb sd ph)) ∧ ∃ n, w' = w.drewN n := by
  cases kd
  · cases rb
    · cases sd
      · go_enter Yba.func12, Yba.ntmps12
        go_wp2
        go_quiet (fail)
        go_wp2
        go_ret
        exact ⟨rfl, _, rfl⟩
      · go_enter Yba.func12, Yba.ntmps12
        go_wp2
        go_quiet (fail)
        go_wp2
        go_ret
        exact ⟨rfl, _, rfl⟩
    · go_enter Yba.func12, Yba.ntmps12
      go_wp2
      go_quiet (fail)
      go_wp2
      go_ret
      exact ⟨rfl, _, rfl⟩
  · go_enter Yba.func12, Yba.ntmps12
    go_wp2
    go_quiet (fail)
    go_wp2
    go_ret
    exact ⟨rfl, _, rfl⟩

/-- is the wait one of its own: the start nonterminal's from offset 0 -/
def sgB (og ow s : Int) : Bool := (og == 0) && (ow == s)

set_option maxRecDepth 100000 in
set_option maxHeartbeats 1000000 in
theorem single_any (nx og it ow s : Int) (bo bv bc : Nat) (w : World) (ho : w.cell? ⟨bo, 0, none⟩ = some (.int .i32 ow)) (hv : w.cell? ⟨bv, 0, none⟩ = some (.pointer (some ⟨bc, 0, none⟩))) (hc : w.cell? ⟨bc, 2, none⟩ = some (.int .i32 s)) :
    Calls Yba.prog 11 #[.agg #[.int .i32 nx, .int .i32 og, .int .i32 it], .pointer (some ⟨bo, 0, none⟩), .pointer (some ⟨bv, 0, none⟩)] w
      fun e w' => e = .returned (.bool (sgB og ow s)) ∧ ∃ n, w' = (w.alloc (.cells #[.int .i32 nx, .int .i32 og, .int .i32 it] 44)).drewN n := by
  have ho' := World.block_lt_of_cell? w _ ho
  have hv' := World.block_lt_of_cell? w _ hv
  have hc' := World.block_lt_of_cell? w _ hc
  simp at ho' hv' hc'
  have g1 : (w.alloc (.cells #[.int .i32 nx, .int .i32 og, .int .i32 it] 44)).cell? ⟨bo, 0, none⟩ = some (.int .i32 ow) := by rw [World.cell?_alloc_lt _ _ _ (by exact ho')]; exact ho
  have g2 : (w.alloc (.cells #[.int .i32 nx, .int .i32 og, .int .i32 it] 44)).cell? ⟨bv, 0, none⟩ = some (.pointer (some ⟨bc, 0, none⟩)) := by rw [World.cell?_alloc_lt _ _ _ (by exact hv')]; exact hv
  have g3 : (w.alloc (.cells #[.int .i32 nx, .int .i32 og, .int .i32 it] 44)).cell? ⟨bc, 2, none⟩ = some (.int .i32 s) := by rw [World.cell?_alloc_lt _ _ _ (by exact hc')]; exact hc
  clear ho hv hc
  cases h0 : (og == 0)
  · go_enter Yba.func11, Yba.ntmps11
    go_wp2
    go_quiet (fail)
    go_wp2
    go_ret
    exact ⟨by simp [sgB, h0], _, rfl⟩
  · go_enter Yba.func11, Yba.ntmps11
    go_wp2
    go_quiet (fail)
    go_wp2
    go_ret
    exact ⟨by simp [sgB, h0], _, rfl⟩

set_option maxRecDepth 100000 in
set_option maxHeartbeats 1000000 in
theorem lawsingle_any (i n nx ow : Nat) (og s : Int) (bq bsv btv bw bs : Nat) (w : World) (hi : i < n) (hn : n ≤ 1024) (hnx : nx < 4)
    (hq : w.cell? ⟨bq, 0, none⟩ = some (.slice (some ⟨bw, 0, none⟩) n n)) (hsv : w.cell? ⟨bsv, 0, none⟩ = some (.slice (some ⟨bs, 0, none⟩) 4 4)) (htv : w.cell? ⟨btv, 0, none⟩ = some (.int .i32 s))
    (h0 : w.cell? ⟨bw, i * 3, none⟩ = some (.int .i32 nx)) (h1 : w.cell? ⟨bw, i * 3 + 1, none⟩ = some (.int .i32 og)) (h2 : w.cell? ⟨bs, nx * 10 + 5, none⟩ = some (.int .i32 ow)) :
    Calls Yba.prog 7 #[.int .i32 i, .pointer (some ⟨bq, 0, none⟩), .pointer (some ⟨bsv, 0, none⟩), .pointer (some ⟨btv, 0, none⟩)] w
      fun e w' => e = .returned (.bool (sgB og ow s)) ∧ ∃ n, w' = w.drewN n := by
  cases h0' : (og == 0)
  · go_enter Yba.func7, Yba.ntmps7
    go_wp2
    go_quiet (fail)
    go_wp2
    go_ret
    exact ⟨by simp [sgB, h0'], _, rfl⟩
  · go_enter Yba.func7, Yba.ntmps7
    go_wp2
    go_quiet (fail)
    go_wp2
    go_ret
    exact ⟨by simp [sgB, h0'], _, rfl⟩

end Go.Proofs.Ybulkbprc
