/-
  LawS3317CNumbered: its walk.
-/
import Derived.Test.YbulkbprcTx
import Derived.Test.YbulkbprcPlainN
import Derived.Test.YbulkbprcStart
import Derived.OpenShut
namespace Go.Proofs.Ybulkbprc
open Go.RowKit
set_option linter.unusedVariables false

theorem dgi (c : Int) : dgB c = true ↔ 48 ≤ c ∧ c ≤ 57 := by simp [dgB]
theorem lti (c : Int) : ltB c = true ↔ (97 ≤ c ∧ c ≤ 122) ∨ (65 ≤ c ∧ c ≤ 90) := by simp [ltB]

set_option maxRecDepth 100000 in
set_option maxHeartbeats 1000000 in
theorem cnum_walk (a0 : Option Addr) (n0 cap0 : Nat) (z0 : Nat → Int) (a1 a2 a3 a4 : Int) (cp : Bool) (a6 : Option Addr) (n6 cap6 : Nat) (z6 : Nat → Int) (w : World) (hn0 : n0 ≤ 1024) (hn6 : n6 ≤ 1024) (hsrc0 : Src w a0 n0 z0) (hsrc6 : Src w a6 n6 z6)
    (h1 : 0 ≤ a1) (h1' : a1 ≤ 255) (h2 : 0 ≤ a2) (h2' : a2 ≤ 255) (h3 : 0 ≤ a3) (h3' : a3 ≤ 255) (h4 : 0 ≤ a4) (h4' : a4 ≤ 255) :
    Calls Yba.prog 5 #[.slice a0 n0 cap0, .int .u8 a1, .int .u8 a2, .int .u8 a3, .int .u8 a4, .bool cp, .slice a6 n6 cap6] w fun e w' => e = .returned (.bool true) ∧ Below w.heap.size w w' := by
  have hg6 : decide ((1024 : Int) < (n6 : Int)) = false := by simp; omega
  rcases Nat.eq_zero_or_pos n0 with rfl | hpos
  · go_enter Yba.func5, Yba.ntmps5
    go_wp2_with fail
    refine (build_any a0 0 cap0 z0 _ (by omega) hsrc0).mono ?_
    rintro e w1 ⟨rfl, hown1, hbel1⟩
    have hT0 : Tx w w1 (.slice (some ⟨w.heap.size, 0, none⟩) 0 0) [] := ⟨by simp, hown1, hbel1⟩
    clear hown1 hbel1
    go_wp2
    obtain ⟨A, hTA, hbg, hlA⟩ : ∃ A, Tx w w1 (.slice (some ⟨w.heap.size, 0, none⟩) 0 0) A ∧ Hid (Bg A) ∧ A.length ≤ 1025 := ⟨_, hT0, Or.inl rfl, by simp⟩
    clear hT0
    clear hsrc0
    go_loopw [15, 16] (fun v i wr => ∃ L : List Int, (L.length : Int) ≤ a1 % 4 ∧ i = .int .i64 L.length ∧ Tx w wr v (A ++ L) ∧ Hid (∀ c ∈ L, blB c = true)) (fun _ i _ => 4 - (intOf i).toNat)
    case atStart => exact ⟨[], by simp; omega, rfl, by simpa using hTA, fun c hc => by cases hc⟩
    case round =>
      obtain ⟨L, hL, rfl, hT, hbL⟩ := hrel
      by_cases hlt : (L.length : Int) < a1 % 4
      · go_wp2_with (at_builtin; refine wpList_tx1 rfl _ _ rfl rfl rfl hT (by simp; omega) ?_; intro v2 w2 hT2)
        all_goals
          rw [List.append_assoc] at hT2
          go_roundw
          case rel => exact ⟨_, by simp; omega, by simp, hT2, all_snoc hbL.out rfl⟩
          case measure => simp [intOf]; omega
      · go_wp2_with (at_builtin; refine wpList_tx1 rfl _ _ rfl rfl rfl hT (by simp; omega) ?_; intro v2 w2 hT2)
        clear hT hlt
        have hL4 : L.length ≤ 3 := by omega
        clear hL
        go_loopw [15, 18] (fun v i wr => ∃ D : List Int, (D.length : Int) ≤ 1 + a3 % 5 ∧ i = .int .i64 D.length ∧ Tx w wr v (A ++ L ++ [91] ++ D) ∧ Hid (∀ c ∈ D, dgB c = true)) (fun _ i _ => 10 - (intOf i).toNat)
        case atStart => exact ⟨[], by simp; omega, rfl, by simpa using hT2, fun c hc => by cases hc⟩
        case round =>
          obtain ⟨D, hD, rfl, hT, hbD⟩ := hrel
          by_cases hlt : (D.length : Int) < 1 + a3 % 5
          · go_wp2_with (at_builtin; refine wpList_tx1 rfl _ _ rfl rfl rfl hT (by simp; omega) ?_; intro v3 w3 hT3)
            rw [List.append_assoc] at hT3
            go_roundw
            case rel => exact ⟨_, by simp; omega, by simp, hT3, all_snoc hbD.out (by rw [dgi]; omega)⟩
            case measure => simp [intOf]; omega
          · have hD0 : Hid (D ≠ []) := by
              intro e
              rw [e] at hlt
              simp at hlt
              omega
            have hD6 : D.length ≤ 5 := by omega
            clear hT2
            go_wp2
            clear hlt hD
            go_loopw [15, 19] (fun v i wr => ∃ E : List Int, (E.length : Int) ≤ a4 % 3 ∧ i = .int .i64 E.length ∧ Tx w wr v (A ++ L ++ [91] ++ D ++ E) ∧ Hid (∀ c ∈ E, ltB c = true)) (fun _ i _ => 10 - (intOf i).toNat)
            case atStart => exact ⟨[], by simp; omega, rfl, by simpa using hT, fun c hc => by cases hc⟩
            case round =>
              clear hT
              obtain ⟨E, hE, rfl, hT, hbE⟩ := hrel
              by_cases hlt : (E.length : Int) < a4 % 3
              · go_wp2_with (at_builtin; refine wpList_tx1 rfl _ _ rfl rfl rfl hT (by simp; omega) ?_; intro v4 w4 hT4)
                rw [List.append_assoc] at hT4
                go_roundw
                case rel => exact ⟨_, by simp; omega, by simp, hT4, all_snoc hbE.out (by rw [lti]; omega)⟩
                case measure => simp [intOf]; omega
              · have hE2 : E.length ≤ 2 := by omega
                go_wp2_with (at_builtin; refine wpList_tx1 rfl _ _ rfl rfl rfl hT (by simp; omega) ?_; intro v4 w4 hT4)
                clear hlt hE hT
                go_loopw [15, 20] (fun v i wr => ∃ T : List Int, (T.length : Int) ≤ a2 % 4 ∧ i = .int .i64 T.length ∧ Tx w wr v (lineOf A L D E T) ∧ Hid (∀ c ∈ T, blB c = true)) (fun _ i _ => 10 - (intOf i).toNat)
                case atStart => exact ⟨[], by simp; omega, rfl, by simpa [lineOf] using hT4, fun c hc => by cases hc⟩
                case round =>
                  clear hT4
                  obtain ⟨T, hTl, rfl, hT, hbT⟩ := hrel
                  have hll : (lineOf A L D E T).length ≤ 2000 := by simp [lineOf]; omega
                  by_cases hlt : (T.length : Int) < a2 % 4
                  · go_wp2_with (at_builtin; refine wpList_tx1 rfl _ _ rfl rfl rfl hT (by omega) ?_; intro v5 w5 hT5)
                    all_goals
                      go_roundw
                      case rel => exact ⟨T ++ [_], by simp; omega, by simp, by simpa [lineOf] using hT5, all_snoc hbT.out rfl⟩
                      case measure => simp [intOf]; omega
                  · obtain ⟨g, cap, rfl, hgB, hgw⟩ := hT.shape
                    have FIN : Hid (∀ R, SL (fun i => (lineOf A L D E T ++ R).getD i 0) (lineOf A L D E T).length cp ↔ cp = true) := fun R => numbered A L D E T R hbg.out hbL.out hD0.out hbD.out hbE.out hbT.out cp
                    clear hbg hbL hD0 hbD hbE hbT
                    generalize lineOf A L D E T = X at *
                    go_wp2_with fail
                    refine (build_any a6 n6 cap6 z6 _ (by omega) (hsrc6.below hT.2.2)).mono ?_
                    rintro e w6 ⟨rfl, hown6, hbel6⟩
                    have hT6 : Tx w w6 (.slice (some ⟨g, 0, none⟩) X.length cap) X := ⟨hT.1, own_below hT.2.1 hbel6 (fun k hk => by simp [Value.ownBlock] at hk; omega), hT.2.2.trans (hbel6.mono hT.2.2.size)⟩
                    have hsc := hown6.cells rfl
                    go_wp2_with (at_builtin; refine wpList_txn rfl _ _ rfl (ys := built z6 n6) rfl rfl hT6 (by simp [built]) hsc (by omega) ?_; intro v7 w7 hT7 hg7; generalize hY : X ++ built z6 n6 = Y at hT7; have HY : Hid (X ++ built z6 n6 = Y) := hY; clear hY; obtain ⟨g7, cap7, rfl, hg7a, hg7b⟩ := hT7.shape)
                    have hYl : Y.length = X.length + n6 := by rw [← HY.out]; simp [built]
                    refine (starts_any (fun i => Y.getD i 0) g7 0 Y.length cap7 (w7.heap.size + 1) w7.heap.size X.length cp _ (by omega) (by omega) ?_).mono ?_
                    · exact ⟨by simp, by simp, by simp, own_cell ((hT7.2.1.alloc _).alloc _)⟩
                    rintro e w8 ⟨R1, hR1, rfl, hw8⟩
                    have hbel8 : Below w.heap.size w w8 := by rw [hw8]; exact ((hT7.alloc _).alloc _).2.2
                    clear hw8
                    have hRR : R1 = cp := by rw [Bool.eq_iff_iff, hR1, ← HY.out]; exact FIN.out _
                    subst hRR
                    clear hYl
                    go_wp2
                    go_ret
                    exact ⟨by simp, hbel8⟩
  · have hg0 : decide ((1024 : Int) < (n0 : Int)) = false := by simp; omega
    have hd : decide ((0 : Int) < (n0 : Int)) = true := by simp; omega
    go_enter Yba.func5, Yba.ntmps5
    go_wp2_with fail
    refine (build_any a0 n0 cap0 z0 _ (by omega) hsrc0).mono ?_
    rintro e w1 ⟨rfl, hown1, hbel1⟩
    have hT0 : Tx w w1 (.slice (some ⟨w.heap.size, 0, none⟩) n0 n0) (built z0 n0) := ⟨by simp, by simpa [built] using hown1, hbel1⟩
    clear hown1 hbel1
    go_wp2_with (at_builtin; refine wpList_tx1 rfl _ _ rfl rfl rfl hT0 (by simp [built]; omega) ?_; intro v1 w1' hT1)
    obtain ⟨A, hTA, hbg, hlA⟩ : ∃ A, Tx w w1' v1 A ∧ Hid (Bg A) ∧ A.length ≤ 1025 := ⟨_, hT1, Or.inr ⟨_, rfl⟩, by simp [built]; omega⟩
    clear hT0 hT1
    clear hsrc0
    go_loopw [15, 16] (fun v i wr => ∃ L : List Int, (L.length : Int) ≤ a1 % 4 ∧ i = .int .i64 L.length ∧ Tx w wr v (A ++ L) ∧ Hid (∀ c ∈ L, blB c = true)) (fun _ i _ => 4 - (intOf i).toNat)
    case atStart => exact ⟨[], by simp; omega, rfl, by simpa using hTA, fun c hc => by cases hc⟩
    case round =>
      obtain ⟨L, hL, rfl, hT, hbL⟩ := hrel
      by_cases hlt : (L.length : Int) < a1 % 4
      · go_wp2_with (at_builtin; refine wpList_tx1 rfl _ _ rfl rfl rfl hT (by simp; omega) ?_; intro v2 w2 hT2)
        all_goals
          rw [List.append_assoc] at hT2
          go_roundw
          case rel => exact ⟨_, by simp; omega, by simp, hT2, all_snoc hbL.out rfl⟩
          case measure => simp [intOf]; omega
      · go_wp2_with (at_builtin; refine wpList_tx1 rfl _ _ rfl rfl rfl hT (by simp; omega) ?_; intro v2 w2 hT2)
        clear hT hlt
        have hL4 : L.length ≤ 3 := by omega
        clear hL
        go_loopw [15, 18] (fun v i wr => ∃ D : List Int, (D.length : Int) ≤ 1 + a3 % 5 ∧ i = .int .i64 D.length ∧ Tx w wr v (A ++ L ++ [91] ++ D) ∧ Hid (∀ c ∈ D, dgB c = true)) (fun _ i _ => 10 - (intOf i).toNat)
        case atStart => exact ⟨[], by simp; omega, rfl, by simpa using hT2, fun c hc => by cases hc⟩
        case round =>
          obtain ⟨D, hD, rfl, hT, hbD⟩ := hrel
          by_cases hlt : (D.length : Int) < 1 + a3 % 5
          · go_wp2_with (at_builtin; refine wpList_tx1 rfl _ _ rfl rfl rfl hT (by simp; omega) ?_; intro v3 w3 hT3)
            rw [List.append_assoc] at hT3
            go_roundw
            case rel => exact ⟨_, by simp; omega, by simp, hT3, all_snoc hbD.out (by rw [dgi]; omega)⟩
            case measure => simp [intOf]; omega
          · have hD0 : Hid (D ≠ []) := by
              intro e
              rw [e] at hlt
              simp at hlt
              omega
            have hD6 : D.length ≤ 5 := by omega
            clear hT2
            go_wp2
            clear hlt hD
            go_loopw [15, 19] (fun v i wr => ∃ E : List Int, (E.length : Int) ≤ a4 % 3 ∧ i = .int .i64 E.length ∧ Tx w wr v (A ++ L ++ [91] ++ D ++ E) ∧ Hid (∀ c ∈ E, ltB c = true)) (fun _ i _ => 10 - (intOf i).toNat)
            case atStart => exact ⟨[], by simp; omega, rfl, by simpa using hT, fun c hc => by cases hc⟩
            case round =>
              clear hT
              obtain ⟨E, hE, rfl, hT, hbE⟩ := hrel
              by_cases hlt : (E.length : Int) < a4 % 3
              · go_wp2_with (at_builtin; refine wpList_tx1 rfl _ _ rfl rfl rfl hT (by simp; omega) ?_; intro v4 w4 hT4)
                rw [List.append_assoc] at hT4
                go_roundw
                case rel => exact ⟨_, by simp; omega, by simp, hT4, all_snoc hbE.out (by rw [lti]; omega)⟩
                case measure => simp [intOf]; omega
              · have hE2 : E.length ≤ 2 := by omega
                go_wp2_with (at_builtin; refine wpList_tx1 rfl _ _ rfl rfl rfl hT (by simp; omega) ?_; intro v4 w4 hT4)
                clear hlt hE hT
                go_loopw [15, 20] (fun v i wr => ∃ T : List Int, (T.length : Int) ≤ a2 % 4 ∧ i = .int .i64 T.length ∧ Tx w wr v (lineOf A L D E T) ∧ Hid (∀ c ∈ T, blB c = true)) (fun _ i _ => 10 - (intOf i).toNat)
                case atStart => exact ⟨[], by simp; omega, rfl, by simpa [lineOf] using hT4, fun c hc => by cases hc⟩
                case round =>
                  clear hT4
                  obtain ⟨T, hTl, rfl, hT, hbT⟩ := hrel
                  have hll : (lineOf A L D E T).length ≤ 2000 := by simp [lineOf]; omega
                  by_cases hlt : (T.length : Int) < a2 % 4
                  · go_wp2_with (at_builtin; refine wpList_tx1 rfl _ _ rfl rfl rfl hT (by omega) ?_; intro v5 w5 hT5)
                    all_goals
                      go_roundw
                      case rel => exact ⟨T ++ [_], by simp; omega, by simp, by simpa [lineOf] using hT5, all_snoc hbT.out rfl⟩
                      case measure => simp [intOf]; omega
                  · obtain ⟨g, cap, rfl, hgB, hgw⟩ := hT.shape
                    have FIN : Hid (∀ R, SL (fun i => (lineOf A L D E T ++ R).getD i 0) (lineOf A L D E T).length cp ↔ cp = true) := fun R => numbered A L D E T R hbg.out hbL.out hD0.out hbD.out hbE.out hbT.out cp
                    clear hbg hbL hD0 hbD hbE hbT
                    generalize lineOf A L D E T = X at *
                    go_wp2_with fail
                    refine (build_any a6 n6 cap6 z6 _ (by omega) (hsrc6.below hT.2.2)).mono ?_
                    rintro e w6 ⟨rfl, hown6, hbel6⟩
                    have hT6 : Tx w w6 (.slice (some ⟨g, 0, none⟩) X.length cap) X := ⟨hT.1, own_below hT.2.1 hbel6 (fun k hk => by simp [Value.ownBlock] at hk; omega), hT.2.2.trans (hbel6.mono hT.2.2.size)⟩
                    have hsc := hown6.cells rfl
                    go_wp2_with (at_builtin; refine wpList_txn rfl _ _ rfl (ys := built z6 n6) rfl rfl hT6 (by simp [built]) hsc (by omega) ?_; intro v7 w7 hT7 hg7; generalize hY : X ++ built z6 n6 = Y at hT7; have HY : Hid (X ++ built z6 n6 = Y) := hY; clear hY; obtain ⟨g7, cap7, rfl, hg7a, hg7b⟩ := hT7.shape)
                    have hYl : Y.length = X.length + n6 := by rw [← HY.out]; simp [built]
                    refine (starts_any (fun i => Y.getD i 0) g7 0 Y.length cap7 (w7.heap.size + 1) w7.heap.size X.length cp _ (by omega) (by omega) ?_).mono ?_
                    · exact ⟨by simp, by simp, by simp, own_cell ((hT7.2.1.alloc _).alloc _)⟩
                    rintro e w8 ⟨R1, hR1, rfl, hw8⟩
                    have hbel8 : Below w.heap.size w w8 := by rw [hw8]; exact ((hT7.alloc _).alloc _).2.2
                    clear hw8
                    have hRR : R1 = cp := by rw [Bool.eq_iff_iff, hR1, ← HY.out]; exact FIN.out _
                    subst hRR
                    clear hYl
                    go_wp2
                    go_ret
                    exact ⟨by simp, hbel8⟩

end Go.Proofs.Ybulkbprc
