/-
  LawS3317CModel: its walk.
-/
import Derived.Test.YbulkbprcBuild
import Derived.Test.YbulkbprcModel
import Derived.OpenShut
import Derived.Deep.RegionWith
import Derived.Laws.BytesArg
namespace Go.Proofs.Ybulkbprc
open Go.RowKit
set_option linter.unusedVariables false

theorem own_cell {W : World} {base g n cap : Nat} {xs : List Int} (h : W.ownsRow base 5 1 (.slice (some ⟨g, 0, none⟩) n cap) n (xs.map (Value.int .u8))) (i : Nat) (hi : i < n) :
    W.cell? ⟨g, 0 + i, none⟩ = some (.int .u8 (xs.getD i 0)) := by
  have hl : xs.length = n := by simpa using h.1
  rw [Nat.zero_add, h.cellAt i (by omega)]
  simp [List.getD, show i < xs.length by omega]

theorem own_conv {W : World} {base g n cap : Nat} {xs : List Int} (h : W.ownsRow base 5 1 (.slice (some ⟨g, 0, none⟩) n cap) n (xs.map (Value.int .u8))) :
    (convert 23 9 (.slice (some ⟨g, 0, none⟩) n cap)).run Yba.prog W = .ok (.string (strOfNums xs)) W :=
  run_convert_bytes_arg W 23 5 Yba.underlying23 Yba.underlying5 g 0 n cap xs (by simpa using h.1) (own_cell h) 9 Yba.underlying9

theorem own_below {w w' : World} {B base : Nat} {e : TypeId} {size : Nat} {v : Value} {n : Nat} {xs : List Value} (h : w.ownsRow base e size v n xs) (hb : Below B w w') (hlt : ∀ g, v.ownBlock = some g → g < B) :
    w'.ownsRow base e size v n xs := by
  refine ⟨h.1, ?_⟩
  rcases h.2 with hn | ⟨g, cap, cur, rfl, hg, hgg, rest⟩
  · exact .inl hn
  · exact .inr ⟨g, cap, cur, rfl, hg, by rw [hb.block g (hlt g rfl)]; exact hgg, rest⟩

set_option maxRecDepth 100000 in
set_option maxHeartbeats 2000000 in
theorem cmodel_walk (a0 : Option Addr) (n cap0 : Nat) (z : Nat → Int) (a1 : Int) (cp : Bool) (w : World) (hn : n ≤ 1024) (hsrc : Src w a0 n z) (ha : 0 ≤ a1) :
    Calls Yba.prog 4 #[.slice a0 n cap0, .int .u64 a1, .bool cp] w fun e w' => e = .returned (.bool true) ∧ Below w.heap.size w w' := by
  obtain ⟨k, hk, hkl⟩ : ∃ k : Nat, wrap64 (a1.tmod ((n : Int) + 1)) = (k : Int) ∧ k ≤ n := by
    have h1 : a1.tmod ((n : Int) + 1) = a1 % ((n : Int) + 1) := Int.tmod_eq_emod_of_nonneg ha
    have h2 := Int.emod_nonneg a1 (show (n : Int) + 1 ≠ 0 by omega)
    have h3 := Int.emod_lt_of_pos a1 (show 0 < (n : Int) + 1 by omega)
    refine ⟨(a1 % ((n : Int) + 1)).toNat, ?_, by omega⟩
    rw [h1, IntWalk.wrap64_in _ ⟨by omega, by omega⟩]
    omega
  have HK : Hid (wrap64 (a1.tmod ((n : Int) + 1)) = (k : Int)) := hk
  clear hk ha
  go_enter Yba.func4, Yba.ntmps4
  go_wp2_with fail
  refine (build_any a0 n cap0 z _ (by omega) hsrc).mono ?_
  rintro e w1 ⟨rfl, hown1, hbel1⟩
  have hsz1 : w.heap.size < w1.heap.size := (hown1.lt _ rfl).2
  go_wp2_with fail
  rw [HK.out]
  refine (starts_any (fun i => (built z n).getD i 0) w.heap.size 0 n n (w1.heap.size + 1) w1.heap.size k cp _ (by omega) hkl ?_).mono ?_
  · exact ⟨by simp, by simp, by simp, own_cell ((hown1.alloc _).alloc _)⟩
  rintro e w2 ⟨R1, hR1, rfl, hw2⟩
  have hown2 : w2.ownsRow w.heap.size 5 1 (.slice (some ⟨w.heap.size, 0, none⟩) n n) n ((built z n).map (Value.int .u8)) := by rw [hw2]; exact (hown1.alloc _).alloc _
  have hbel2 : Below w.heap.size w w2 := by rw [hw2]; exact (hbel1.alloc (by omega) _).alloc (by simp; omega) _
  have hc2 : w2.cell? ⟨w1.heap.size + 1, 0, none⟩ = some (.slice (some ⟨w.heap.size, 0, none⟩) n n) := by rw [hw2]; simp
  have hsz2 : w1.heap.size + 1 < w2.heap.size := by rw [hw2]; simp
  have hcv2 := own_conv hown2
  have hcv2d := own_conv hown2.drew
  have hc2d : w2.drew.cell? ⟨w1.heap.size + 1, 0, none⟩ = some (.slice (some ⟨w.heap.size, 0, none⟩) n n) := hc2
  have hsrcd : Src w2.drew a0 n z := hsrc.below hbel2.drew
  clear hw2
  go_wp2_with fail
  go_region_with (go_at_call 8; refine (build_any a0 n cap0 z _ (by omega) (by exact hsrcd)).mono ?_; rintro e w3 ⟨rfl, hown3, hbel3⟩; have hcv3 : (convert 23 9 (.slice (some ⟨w2.heap.size, 0, none⟩) n n)).run Yba.prog w3 = .ok (.string (strOfNums (built z n))) w3 := own_conv hown3; have hc3 := (hbel3.cell (p := ⟨w1.heap.size + 1, 0, none⟩) hsz2).trans hc2d; have hown4 := own_below hown2.drew hbel3 (fun g hg => by simp [Value.ownBlock] at hg; subst hg; show _ < w2.heap.size; omega); have hcv4 := own_conv hown4)
  all_goals
    clear hcv2 hcv2d hcv3 hcv4 hc3 hc2 hc2d
    go_wp2_with fail
    refine (model_any (fun i => (built z n).getD i 0) w.heap.size 0 n n k cp _ (by omega) hkl (own_cell hown4)).mono ?_
    rintro e w4 ⟨R2, hR2, rfl, hw4⟩
    subst hw4
    have hRR : R1 = R2 := by rw [Bool.eq_iff_iff, hR1, hR2]
    subst hRR
    go_wp2
    go_ret
    exact ⟨by simp, hbel2.drew.trans (hbel3.mono (by show w.heap.size ≤ w2.heap.size; omega))⟩

end Go.Proofs.Ybulkbprc
