/-
  LawS3321CBuilt: its walk.
-/
import Derived.Test.YbulkbptgTx
namespace Go.Proofs.Ybulkbptg
open Go.RowKit
set_option linter.unusedVariables false

/-- bytes z 0 .. z (n-1) lie at a -/
def Src (w : World) (a : Option Addr) (n : Nat) (z : Nat → Int) : Prop :=
  n = 0 ∨ ∃ b off, a = some ⟨b, off, none⟩ ∧ b < w.heap.size ∧ (∀ i, i < n → 0 ≤ z i ∧ z i ≤ 255) ∧ ∀ i, i < n → w.cell? ⟨b, off + i, none⟩ = some (.int .u8 (z i))

theorem head_snoc {X : List Int} (c : Int) (h : X ≠ []) : (X ++ [c]).getD 0 0 = X.getD 0 0 := by
  cases X with
  | nil => exact absurd rfl h
  | cons a l => rfl
theorem keepP {X : List Int} {c : Int} (h : X ≠ []) (hp : okB (X.getD 0 0) = true) : okB ((X ++ [c]).getD 0 0) = true := by rw [head_snoc c h]; exact hp
theorem pushP {X : List Int} {c : Int} {i n : Nat} (h : (X = [] → i < n) ∧ (X ≠ [] → okB (X.getD 0 0) = true)) (hc : okB c = true) : (X ++ [c] = [] → i + 1 < n) ∧ (X ++ [c] ≠ [] → okB ((X ++ [c]).getD 0 0) = true) := by
  refine ⟨fun e => by simp at e, fun _ => ?_⟩
  by_cases e : X = []
  · subst e; exact hc
  · exact keepP e (h.2 e)

set_option maxRecDepth 100000 in
set_option maxHeartbeats 4000000 in
theorem built_walk (ng : Bool) (a1 : Option Addr) (n1 c1 : Nat) (z1 : Nat → Int) (a2 : Option Addr) (n2 c2 : Nat) (z2 : Nat → Int) (w : World) (hn1 : n1 ≤ 1024) (hn2 : n2 ≤ 1024) (h1 : Src w a1 n1 z1) (h2 : Src w a2 n2 z2) :
    Calls Yba.prog 6 #[.bool ng, .slice a1 n1 c1, .slice a2 n2 c2] w fun e w' => e = .returned (.bool true) ∧ Below w.heap.size w w' := by
  obtain ⟨i0, hi, hz0, hz1, hz2⟩ := info_parts Yba.info5
  have H1 : Hid (Src w a1 n1 z1) := h1
  have H2 : Hid (Src w a2 n2 z2) := h2
  have g1 : decide ((1024 : Int) < (n1 : Int)) = false := by simp; omega
  have g2 : decide ((1024 : Int) < (n2 : Int)) = false := by simp; omega
  obtain ⟨kc, hkc⟩ : ∃ k : Nat, k = 2 + n1 + n2 := ⟨_, rfl⟩
  have hkc' : (2 : Int) + (n1 : Int) + (n2 : Int) = (kc : Int) := by omega
  have hkl : kc ≤ 5000 := by omega
  clear h1 h2 hkc
  by_cases hz : n1 = 0
  · have g3 : ((n1 : Int) == 0) = true := by simp; omega
    have hn1' : n1 ≤ 0 := by omega
    clear hz
    cases ng
    · go_enter Yba.func6, Yba.ntmps6
      go_wp2_with (at_make; refine wpList_make_own _ rfl _ _ 31 rfl w.heap.size 5 i0 (.int .u8 0) 1 Yba.underlying31 hi hz0 hz1 _ _ _ kc rfl rfl rfl ?b2a ?b3a (Nat.le_refl _) ?_)
      case b2a => rw [hz2]; omega
      case b3a => unfold maxLen; omega
      intro w0 hown0 hgrow0
      have hT0 : Tx w w0 (.slice (some ⟨w.heap.size, 0, none⟩) 0 kc) [] := ⟨by simp, hown0, (Below.refl _ _).grown hgrow0 (Nat.le_refl _) (fun k h => by cases h)⟩
      clear hown0 hgrow0 hkc'
      go_wp2_with (at_builtin; refine wpList_tx1 rfl _ _ rfl rfl rfl hT0 (by simp) ?_; intro v1 w1 hT1)
      clear g3
      obtain ⟨A, hTA, hPA, hlA⟩ : ∃ A : List Int, Tx w w1 v1 A ∧ Hid ((A = [] → 0 < n1) ∧ (A ≠ [] → okB (A.getD 0 0) = true)) ∧ A.length ≤ 2 := ⟨_, hT1, ⟨fun e => by simp at e, fun _ => rfl⟩, by simp⟩
      clear hT0 hT1
      go_wp2
      go_loopw [7, 8] (fun v u wr => ∃ (i : Nat) (X : List Int), i ≤ n1 ∧ u = .int .i64 i ∧ Tx w wr v X ∧ X.length ≤ 2 + i ∧ Hid ((X = [] → i < n1) ∧ (X ≠ [] → okB (X.getD 0 0) = true))) (fun _ u _ => n1 - (intOf u).toNat)
      case atStart => exact ⟨0, A, Nat.zero_le _, rfl, hTA, by omega, hPA⟩
      case round =>
        obtain ⟨i, X, hi', rfl, hT, hlX, hP⟩ := hrel
        by_cases hi1 : i < n1
        · exact absurd hi1 (by omega)
        · have HP : Hid (X ≠ [] ∧ okB (X.getD 0 0) = true) := by
            have hX : X ≠ [] := fun e => hi1 (hP.out.1 e)
            exact ⟨hX, hP.out.2 hX⟩
          clear hP hTA hPA
          go_wp2
          go_loopw [7, 9] (fun v u wr => ∃ (q : Nat) (Y : List Int), q ≤ n2 ∧ u = .int .i64 q ∧ Tx w wr v Y ∧ Y.length ≤ 2 + n1 + q ∧ Hid (Y ≠ [] ∧ okB (Y.getD 0 0) = true)) (fun _ u _ => n2 - (intOf u).toNat)
          case atStart => exact ⟨0, X, Nat.zero_le _, rfl, hT, by omega, HP⟩
          case round =>
            clear hT HP hlX
            obtain ⟨q, Y, hq, rfl, hT, hlY, hP⟩ := hrel
            by_cases hq2 : q < n2
            · rcases H2.out with e0 | ⟨b2, o2, rfl, hb2, hz2', hc2⟩
              · omega
              · have c2 : wr.cell? ⟨b2, o2 + q, none⟩ = some (.int .u8 (z2 q)) := (hT.2.2.cell (by exact hb2)).trans (hc2 q hq2)
                clear hc2 hz2'
                go_wp2_with (at_builtin; refine wpList_tx1 rfl _ _ rfl rfl rfl hT (by omega) ?_; intro v3 w3 hT3)
                go_roundw
                case rel => exact ⟨q + 1, _, by omega, by go_num, hT3, by simp; omega, ⟨by simp, keepP hP.out.1 hP.out.2⟩⟩
                case measure => simp [intOf]; omega
            · obtain ⟨g, cap, rfl, hgB, hgw⟩ := hT.shape
              have HAt : Hid (At wr g 0 Y) := fun i hi => own_cell hT.2.1 i hi
              have hv := conv31 cap HAt.out
              have hY0 : 0 < Y.length := List.length_pos_iff.2 hP.out.1
              go_wp2_with fail
              refine (num_yes g 0 cap Y.length Y _ rfl hY0 (by omega) HAt.out hP.out.2).mono ?_
              rintro e w4 ⟨rfl, hw4⟩
              subst hw4
              go_wp2
              go_ret
              exact ⟨by simp, hT.2.2⟩
    · go_enter Yba.func6, Yba.ntmps6
      go_wp2_with (at_make; refine wpList_make_own _ rfl _ _ 31 rfl w.heap.size 5 i0 (.int .u8 0) 1 Yba.underlying31 hi hz0 hz1 _ _ _ kc rfl rfl rfl ?b2b ?b3b (Nat.le_refl _) ?_)
      case b2b => rw [hz2]; omega
      case b3b => unfold maxLen; omega
      intro w0 hown0 hgrow0
      have hT0 : Tx w w0 (.slice (some ⟨w.heap.size, 0, none⟩) 0 kc) [] := ⟨by simp, hown0, (Below.refl _ _).grown hgrow0 (Nat.le_refl _) (fun k h => by cases h)⟩
      clear hown0 hgrow0 hkc'
      go_wp2_with (first | (at_builtin; refine wpList_tx1 rfl (.tmp 29) (.tmp 30) rfl rfl rfl hT0 (by simp) ?_; intro v1 w1 hT1) | (at_builtin; refine wpList_tx1 rfl (.tmp 35) (.tmp 36) rfl rfl rfl hT1 (by simp) ?_; intro v2 w2 hT2))
      clear g3
      obtain ⟨A, hTA, hPA, hlA⟩ : ∃ A : List Int, Tx w w2 v2 A ∧ Hid ((A = [] → 0 < n1) ∧ (A ≠ [] → okB (A.getD 0 0) = true)) ∧ A.length ≤ 2 := ⟨_, hT2, ⟨fun e => by simp at e, fun _ => rfl⟩, by simp⟩
      clear hT0 hT1 hT2
      go_wp2
      go_loopw [7, 8] (fun v u wr => ∃ (i : Nat) (X : List Int), i ≤ n1 ∧ u = .int .i64 i ∧ Tx w wr v X ∧ X.length ≤ 2 + i ∧ Hid ((X = [] → i < n1) ∧ (X ≠ [] → okB (X.getD 0 0) = true))) (fun _ u _ => n1 - (intOf u).toNat)
      case atStart => exact ⟨0, A, Nat.zero_le _, rfl, hTA, by omega, hPA⟩
      case round =>
        obtain ⟨i, X, hi', rfl, hT, hlX, hP⟩ := hrel
        by_cases hi1 : i < n1
        · exact absurd hi1 (by omega)
        · have HP : Hid (X ≠ [] ∧ okB (X.getD 0 0) = true) := by
            have hX : X ≠ [] := fun e => hi1 (hP.out.1 e)
            exact ⟨hX, hP.out.2 hX⟩
          clear hP hTA hPA
          go_wp2
          go_loopw [7, 9] (fun v u wr => ∃ (q : Nat) (Y : List Int), q ≤ n2 ∧ u = .int .i64 q ∧ Tx w wr v Y ∧ Y.length ≤ 2 + n1 + q ∧ Hid (Y ≠ [] ∧ okB (Y.getD 0 0) = true)) (fun _ u _ => n2 - (intOf u).toNat)
          case atStart => exact ⟨0, X, Nat.zero_le _, rfl, hT, by omega, HP⟩
          case round =>
            clear hT HP hlX
            obtain ⟨q, Y, hq, rfl, hT, hlY, hP⟩ := hrel
            by_cases hq2 : q < n2
            · rcases H2.out with e0 | ⟨b2, o2, rfl, hb2, hz2', hc2⟩
              · omega
              · have c2 : wr.cell? ⟨b2, o2 + q, none⟩ = some (.int .u8 (z2 q)) := (hT.2.2.cell (by exact hb2)).trans (hc2 q hq2)
                clear hc2 hz2'
                go_wp2_with (at_builtin; refine wpList_tx1 rfl _ _ rfl rfl rfl hT (by omega) ?_; intro v3 w3 hT3)
                go_roundw
                case rel => exact ⟨q + 1, _, by omega, by go_num, hT3, by simp; omega, ⟨by simp, keepP hP.out.1 hP.out.2⟩⟩
                case measure => simp [intOf]; omega
            · obtain ⟨g, cap, rfl, hgB, hgw⟩ := hT.shape
              have HAt : Hid (At wr g 0 Y) := fun i hi => own_cell hT.2.1 i hi
              have hv := conv31 cap HAt.out
              have hY0 : 0 < Y.length := List.length_pos_iff.2 hP.out.1
              go_wp2_with fail
              refine (num_yes g 0 cap Y.length Y _ rfl hY0 (by omega) HAt.out hP.out.2).mono ?_
              rintro e w4 ⟨rfl, hw4⟩
              subst hw4
              go_wp2
              go_ret
              exact ⟨by simp, hT.2.2⟩
  · have g3 : ((n1 : Int) == 0) = false := by simp; omega
    have hn1' : 0 < n1 := by omega
    clear hz
    cases ng
    · go_enter Yba.func6, Yba.ntmps6
      go_wp2_with (at_make; refine wpList_make_own _ rfl _ _ 31 rfl w.heap.size 5 i0 (.int .u8 0) 1 Yba.underlying31 hi hz0 hz1 _ _ _ kc rfl rfl rfl ?b2c ?b3c (Nat.le_refl _) ?_)
      case b2c => rw [hz2]; omega
      case b3c => unfold maxLen; omega
      intro w0 hown0 hgrow0
      have hT0 : Tx w w0 (.slice (some ⟨w.heap.size, 0, none⟩) 0 kc) [] := ⟨by simp, hown0, (Below.refl _ _).grown hgrow0 (Nat.le_refl _) (fun k h => by cases h)⟩
      clear hown0 hgrow0 hkc'
      go_wp2
      clear g3
      obtain ⟨A, hTA, hPA, hlA⟩ : ∃ A : List Int, Tx w w0 (.slice (some ⟨w.heap.size, 0, none⟩) 0 kc) A ∧ Hid ((A = [] → 0 < n1) ∧ (A ≠ [] → okB (A.getD 0 0) = true)) ∧ A.length ≤ 2 := ⟨_, hT0, ⟨fun _ => hn1', fun e => absurd rfl e⟩, by simp⟩
      clear hT0
      go_wp2
      go_loopw [7, 8] (fun v u wr => ∃ (i : Nat) (X : List Int), i ≤ n1 ∧ u = .int .i64 i ∧ Tx w wr v X ∧ X.length ≤ 2 + i ∧ Hid ((X = [] → i < n1) ∧ (X ≠ [] → okB (X.getD 0 0) = true))) (fun _ u _ => n1 - (intOf u).toNat)
      case atStart => exact ⟨0, A, Nat.zero_le _, rfl, hTA, by omega, hPA⟩
      case round =>
        obtain ⟨i, X, hi', rfl, hT, hlX, hP⟩ := hrel
        by_cases hi1 : i < n1
        · rcases H1.out with e0 | ⟨b1, o1, rfl, hb1, hz1', hc1⟩
          · omega
          · have c1 : wr.cell? ⟨b1, o1 + i, none⟩ = some (.int .u8 (z1 i)) := (hT.2.2.cell (by exact hb1)).trans (hc1 i hi1)
            have zi := hz1' i hi1
            clear hc1 hz1'
            go_wp2_with (at_builtin; refine wpList_tx1 rfl _ _ rfl rfl rfl hT (by omega) ?_; intro v2 w2 hT2)
            go_roundw
            case rel => exact ⟨i + 1, _, by omega, by go_num, hT2, by simp; omega, pushP hP.out (by simp [okB]; omega)⟩
            case measure => simp [intOf]; omega
        · have HP : Hid (X ≠ [] ∧ okB (X.getD 0 0) = true) := by
            have hX : X ≠ [] := fun e => hi1 (hP.out.1 e)
            exact ⟨hX, hP.out.2 hX⟩
          clear hP hTA hPA
          go_wp2
          go_loopw [7, 9] (fun v u wr => ∃ (q : Nat) (Y : List Int), q ≤ n2 ∧ u = .int .i64 q ∧ Tx w wr v Y ∧ Y.length ≤ 2 + n1 + q ∧ Hid (Y ≠ [] ∧ okB (Y.getD 0 0) = true)) (fun _ u _ => n2 - (intOf u).toNat)
          case atStart => exact ⟨0, X, Nat.zero_le _, rfl, hT, by omega, HP⟩
          case round =>
            clear hT HP hlX
            obtain ⟨q, Y, hq, rfl, hT, hlY, hP⟩ := hrel
            by_cases hq2 : q < n2
            · rcases H2.out with e0 | ⟨b2, o2, rfl, hb2, hz2', hc2⟩
              · omega
              · have c2 : wr.cell? ⟨b2, o2 + q, none⟩ = some (.int .u8 (z2 q)) := (hT.2.2.cell (by exact hb2)).trans (hc2 q hq2)
                clear hc2 hz2'
                go_wp2_with (at_builtin; refine wpList_tx1 rfl _ _ rfl rfl rfl hT (by omega) ?_; intro v3 w3 hT3)
                go_roundw
                case rel => exact ⟨q + 1, _, by omega, by go_num, hT3, by simp; omega, ⟨by simp, keepP hP.out.1 hP.out.2⟩⟩
                case measure => simp [intOf]; omega
            · obtain ⟨g, cap, rfl, hgB, hgw⟩ := hT.shape
              have HAt : Hid (At wr g 0 Y) := fun i hi => own_cell hT.2.1 i hi
              have hv := conv31 cap HAt.out
              have hY0 : 0 < Y.length := List.length_pos_iff.2 hP.out.1
              go_wp2_with fail
              refine (num_yes g 0 cap Y.length Y _ rfl hY0 (by omega) HAt.out hP.out.2).mono ?_
              rintro e w4 ⟨rfl, hw4⟩
              subst hw4
              go_wp2
              go_ret
              exact ⟨by simp, hT.2.2⟩
    · go_enter Yba.func6, Yba.ntmps6
      go_wp2_with (at_make; refine wpList_make_own _ rfl _ _ 31 rfl w.heap.size 5 i0 (.int .u8 0) 1 Yba.underlying31 hi hz0 hz1 _ _ _ kc rfl rfl rfl ?b2d ?b3d (Nat.le_refl _) ?_)
      case b2d => rw [hz2]; omega
      case b3d => unfold maxLen; omega
      intro w0 hown0 hgrow0
      have hT0 : Tx w w0 (.slice (some ⟨w.heap.size, 0, none⟩) 0 kc) [] := ⟨by simp, hown0, (Below.refl _ _).grown hgrow0 (Nat.le_refl _) (fun k h => by cases h)⟩
      clear hown0 hgrow0 hkc'
      go_wp2_with (at_builtin; refine wpList_tx1 rfl _ _ rfl rfl rfl hT0 (by simp) ?_; intro v1 w1 hT1)
      clear g3
      obtain ⟨A, hTA, hPA, hlA⟩ : ∃ A : List Int, Tx w w1 v1 A ∧ Hid ((A = [] → 0 < n1) ∧ (A ≠ [] → okB (A.getD 0 0) = true)) ∧ A.length ≤ 2 := ⟨_, hT1, ⟨fun e => by simp at e, fun _ => rfl⟩, by simp⟩
      clear hT0 hT1
      go_wp2
      go_loopw [7, 8] (fun v u wr => ∃ (i : Nat) (X : List Int), i ≤ n1 ∧ u = .int .i64 i ∧ Tx w wr v X ∧ X.length ≤ 2 + i ∧ Hid ((X = [] → i < n1) ∧ (X ≠ [] → okB (X.getD 0 0) = true))) (fun _ u _ => n1 - (intOf u).toNat)
      case atStart => exact ⟨0, A, Nat.zero_le _, rfl, hTA, by omega, hPA⟩
      case round =>
        obtain ⟨i, X, hi', rfl, hT, hlX, hP⟩ := hrel
        by_cases hi1 : i < n1
        · rcases H1.out with e0 | ⟨b1, o1, rfl, hb1, hz1', hc1⟩
          · omega
          · have c1 : wr.cell? ⟨b1, o1 + i, none⟩ = some (.int .u8 (z1 i)) := (hT.2.2.cell (by exact hb1)).trans (hc1 i hi1)
            have zi := hz1' i hi1
            clear hc1 hz1'
            go_wp2_with (at_builtin; refine wpList_tx1 rfl _ _ rfl rfl rfl hT (by omega) ?_; intro v2 w2 hT2)
            go_roundw
            case rel => exact ⟨i + 1, _, by omega, by go_num, hT2, by simp; omega, pushP hP.out (by simp [okB]; omega)⟩
            case measure => simp [intOf]; omega
        · have HP : Hid (X ≠ [] ∧ okB (X.getD 0 0) = true) := by
            have hX : X ≠ [] := fun e => hi1 (hP.out.1 e)
            exact ⟨hX, hP.out.2 hX⟩
          clear hP hTA hPA
          go_wp2
          go_loopw [7, 9] (fun v u wr => ∃ (q : Nat) (Y : List Int), q ≤ n2 ∧ u = .int .i64 q ∧ Tx w wr v Y ∧ Y.length ≤ 2 + n1 + q ∧ Hid (Y ≠ [] ∧ okB (Y.getD 0 0) = true)) (fun _ u _ => n2 - (intOf u).toNat)
          case atStart => exact ⟨0, X, Nat.zero_le _, rfl, hT, by omega, HP⟩
          case round =>
            clear hT HP hlX
            obtain ⟨q, Y, hq, rfl, hT, hlY, hP⟩ := hrel
            by_cases hq2 : q < n2
            · rcases H2.out with e0 | ⟨b2, o2, rfl, hb2, hz2', hc2⟩
              · omega
              · have c2 : wr.cell? ⟨b2, o2 + q, none⟩ = some (.int .u8 (z2 q)) := (hT.2.2.cell (by exact hb2)).trans (hc2 q hq2)
                clear hc2 hz2'
                go_wp2_with (at_builtin; refine wpList_tx1 rfl _ _ rfl rfl rfl hT (by omega) ?_; intro v3 w3 hT3)
                go_roundw
                case rel => exact ⟨q + 1, _, by omega, by go_num, hT3, by simp; omega, ⟨by simp, keepP hP.out.1 hP.out.2⟩⟩
                case measure => simp [intOf]; omega
            · obtain ⟨g, cap, rfl, hgB, hgw⟩ := hT.shape
              have HAt : Hid (At wr g 0 Y) := fun i hi => own_cell hT.2.1 i hi
              have hv := conv31 cap HAt.out
              have hY0 : 0 < Y.length := List.length_pos_iff.2 hP.out.1
              go_wp2_with fail
              refine (num_yes g 0 cap Y.length Y _ rfl hY0 (by omega) HAt.out hP.out.2).mono ?_
              rintro e w4 ⟨rfl, hw4⟩
              subst hw4
              go_wp2
              go_ret
              exact ⟨by simp, hT.2.2⟩

end Go.Proofs.Ybulkbptg
