/-
  The leaves of the road: isLetter, isDigit, zzs3317cblank, skipBack, productionNumber: a contract each.
-/
import Derived.Test.YbulkbprcProg
import Derived.Test.YbulkbprcPlain
import Derived.WalkKit
import Derived.WalkLawsBesides
import Derived.Below
namespace Go.Proofs.Ybulkbprc
open Go.RowKit
set_option linter.unusedVariables false

theorem ret_bool {a b : Bool} (h : a = b) : Ending.returned (.bool a) = .returned (.bool b) := by rw [h]

theorem letter_any (c : Int) (w : World) : Calls Yba.prog 14 #[.int .u8 c] w fun e w' => e = .returned (.bool (ltB c)) ∧ w' = w := by
  go_enter Yba.func14, Yba.ntmps14
  go_wp2
  all_goals go_ret
  all_goals exact ⟨ret_bool (by rw [ltB, Bool.eq_iff_iff]; simp; omega), rfl⟩

theorem digit_any (c : Int) (w : World) : Calls Yba.prog 15 #[.int .u8 c] w fun e w' => e = .returned (.bool (dgB c)) ∧ w' = w := by
  go_enter Yba.func15, Yba.ntmps15
  go_wp2
  all_goals go_ret
  all_goals exact ⟨ret_bool (by rw [dgB, Bool.eq_iff_iff]; simp; omega), rfl⟩

theorem blank_any (c : Int) (w : World) : Calls Yba.prog 17 #[.int .u8 c] w fun e w' => e = .returned (.bool (blB c)) ∧ w' = w := by
  go_enter Yba.func17, Yba.ntmps17
  go_wp2
  all_goals go_ret
  all_goals exact ⟨ret_bool (by rw [blB, Bool.eq_iff_iff]; simp <;> omega), rfl⟩

theorem ret_nat {a b : Int} (h : a = b) : Ending.returned (.int .i64 a) = .returned (.int .i64 b) := by rw [h]

theorem skip_any (b o n cp k : Nat) (t : Nat → Int) (w : World) (hn : n ≤ 1000000) (hk : k ≤ n) (hc : ∀ i, i < n → w.cell? ⟨b, o + i, none⟩ = some (.int .u8 (t i))) :
    Calls Yba.prog 13 #[.slice (some ⟨b, o, none⟩) n cp, .int .i64 k] w fun e w' => ∃ r : Nat, Sk t k r ∧ e = .returned (.int .i64 r) ∧ w' = w := by
  go_enter Yba.func13, Yba.ntmps13
  go_wp2
  go_loop [1] (fun v => ∃ j : Nat, j ≤ k ∧ v = .int .i64 j ∧ Hid (∀ i, j ≤ i → i < k → blB (t i) = true)) (fun v => (intOf v).toNat)
  case atStart => exact ⟨k, Nat.le_refl _, rfl, fun i h1 h2 => by omega⟩
  case round =>
    obtain ⟨j, hj, rfl, hb⟩ := hrel
    by_cases h0 : j = 0
    · subst h0
      clear hc
      go_wp2
      go_ret
      exact ⟨0, ⟨Nat.zero_le _, fun i h1 h2 => hb i h1 h2, Or.inl rfl⟩, rfl, rfl⟩
    · obtain ⟨q, rfl⟩ : ∃ q, j = q + 1 := ⟨j - 1, by omega⟩
      have hcell := hc q (by omega)
      clear hc
      have fin : blB (t q) = true → ∀ i, q ≤ i → i < k → blB (t i) = true := fun h i h1 h2 => by
        by_cases e : i = q
        · rw [e]; exact h
        · exact hb.out i (by omega) h2
      have FIN : Hid (blB (t q) = true → ∀ i, q ≤ i → i < k → blB (t i) = true) := fin
      clear fin
      go_wp2
      · go_round
        case rel => exact ⟨q, by omega, rfl, FIN.out (by simp [blB]; omega)⟩
        case measure => simp [intOf]
      · have h9 : (t q == 32) = true ∨ (t q == 9) = true := by assumption
        go_round
        case rel => exact ⟨q, by omega, rfl, FIN.out (by simp [blB]; simpa using h9)⟩
        case measure => simp [intOf]
      · have h9 : (t q == 32) = false ∧ (t q == 9) = false := by assumption
        go_ret
        exact ⟨q + 1, ⟨by omega, hb.out, Or.inr (by simpa [blB] using h9)⟩, ret_nat (by omega), rfl⟩

theorem prod_neg (b o n cp : Nat) (s : Int) (t : Nat → Int) (w : World) (hn : n ≤ 1000000) (hs : s < 0) :
    Calls Yba.prog 16 #[.slice (some ⟨b, o, none⟩) n cp, .int .i64 s] w fun e w' => e = .returned (.tuple #[.int .i64 s, .bool false]) ∧ w' = w := by
  go_enter Yba.func16, Yba.ntmps16
  go_wp2
  go_ret2
  exact ⟨rfl, rfl⟩
def ProdPost (t : Nat → Int) (n s : Nat) (w : World) (e : Ending) (w' : World) : Prop := ∃ (r : Int) (ok : Bool), PN t n s r ok ∧ e = .returned (.tuple #[.int .i64 r, .bool ok]) ∧ w' = w

set_option maxHeartbeats 1000000 in
theorem prod_in (b o n cp s : Nat) (t : Nat → Int) (w : World) (hn : n ≤ 1000000) (hs : s < n) (hc : ∀ i, i < n → w.cell? ⟨b, o + i, none⟩ = some (.int .u8 (t i))) :
    Calls Yba.prog 16 #[.slice (some ⟨b, o, none⟩) n cp, .int .i64 s] w (ProdPost t n s w) := by
  have HC : Hid (∀ i, i < n → w.cell? ⟨b, o + i, none⟩ = some (.int .u8 (t i))) := hc
  have hcs := hc s hs
  clear hc
  have hsn : ((s : Int) == (n : Int)) = false := by simp; omega
  have hs0 : decide ((s : Int) < 0) = false := by simp
  by_cases h91 : t s = 91
  · have H91 : Hid (t s = 91) := h91
    have hb91 : (t s != 91) = false := by simp [h91]
    clear h91
    go_enter Yba.func16, Yba.ntmps16
    go_wp2
    clear hcs
    go_loop [6] (fun v => ∃ j : Nat, s + 1 ≤ j ∧ j ≤ n ∧ v = .int .i64 j ∧ Hid (∀ i, s + 1 ≤ i → i < j → dgB (t i) = true)) (fun v => n - (intOf v).toNat)
    case atStart => exact ⟨s + 1, Nat.le_refl _, by omega, by go_num, fun i h1 h2 => by omega⟩
    case round =>
      obtain ⟨j, hj1, hj2, rfl, hb⟩ := hrel
      by_cases hgo : j < n ∧ dgB (t j) = true
      · obtain ⟨hjn, hd⟩ := hgo
        have hcell := HC.out j hjn
        go_wp2_with (go_at_call 15; refine (digit_any _ _).mono ?_; rintro e wx ⟨rfl, hwx⟩; subst hwx)
        go_round
        case rel => exact ⟨j + 1, by omega, by omega, by go_num, fw_step hb.out hd⟩
        case measure => simp [intOf]; omega
      · have FW : Hid (Fw (fun i => dgB (t i)) (s + 1) n j) := ⟨hj1, hj2, hb.out, by
          by_cases e : j < n
          · exact Or.inr (by simpa [e] using hgo)
          · exact Or.inl (by omega)⟩
        have hcell : j < n → w.cell? ⟨b, o + j, none⟩ = some (.int .u8 (t j)) := fun h => HC.out j h
        have hd : j < n → dgB (t j) = false := fun h => by simpa [h] using hgo
        clear hgo hb
        by_cases hjs : j = s + 1
        · have hjb : ((j : Int) == (s : Int) + 1) = true := by simp; omega
          have HJS : Hid (j = s + 1) := hjs
          clear hjs
          by_cases hjn : j < n
          all_goals
            go_wp2_with (go_at_call 15; refine (digit_any _ _).mono ?_; rintro e wx ⟨rfl, hwx⟩; subst hwx)
            go_ret2
            exact ⟨_, _, Or.inr ⟨rfl, Or.inr ⟨j, FW.out, Or.inl HJS.out⟩⟩, rfl, rfl⟩
        · have hjb : ((j : Int) == (s : Int) + 1) = false := by simp; omega
          have HJS : Hid (j ≠ s + 1) := hjs
          clear hjs
          by_cases hjn : j < n
          all_goals
            go_wp2_with (go_at_call 15; refine (digit_any _ _).mono ?_; rintro e wx ⟨rfl, hwx⟩; subst hwx)
            go_loop [6] (fun v => ∃ l : Nat, j ≤ l ∧ l ≤ n ∧ v = .int .i64 l ∧ Hid (∀ i, j ≤ i → i < l → ltB (t i) = true)) (fun v => n - (intOf v).toNat)
            case atStart => exact ⟨j, Nat.le_refl _, by omega, by go_num, fun i h1 h2 => by omega⟩
            case round =>
              obtain ⟨l, hl1, hl2, rfl, hb⟩ := hrel
              clear hcell hd hjn
              by_cases hgo : l < n ∧ ltB (t l) = true
              · obtain ⟨hln, hd⟩ := hgo
                have hcell := HC.out l hln
                go_wp2_with (go_at_call 14; refine (letter_any _ _).mono ?_; rintro e wx ⟨rfl, hwx⟩; subst hwx)
                go_round
                case rel => exact ⟨l + 1, by omega, by omega, by go_num, fw_step hb.out hd⟩
                case measure => simp [intOf]; omega
              · have FL : Hid (Fw (fun i => ltB (t i)) j n l) := ⟨hl1, hl2, hb.out, by
                  by_cases e : l < n
                  · exact Or.inr (by simpa [e] using hgo)
                  · exact Or.inl (by omega)⟩
                by_cases hln : l < n
                · have hcell := HC.out l hln
                  have hd : ltB (t l) = false := by simpa [hln] using hgo
                  clear hgo hb
                  by_cases h93 : t l = 93
                  · have H93 : Hid (t l = 93) := h93
                    have hb93 : (t l != 93) = false := by simp [h93]
                    have hln' : ((l : Int) == (n : Int)) = false := by simp; omega
                    clear h93
                    go_wp2_with (go_at_call 14; refine (letter_any _ _).mono ?_; rintro e wx ⟨rfl, hwx⟩; subst hwx)
                    go_ret2
                    exact ⟨_, _, Or.inl ⟨rfl, j, l, H91.out, FW.out, HJS.out, FL.out, hln, H93.out, rfl⟩, rfl, rfl⟩
                  · have hb93 : (t l != 93) = true := by simp [h93]
                    have hln' : ((l : Int) == (n : Int)) = false := by simp; omega
                    go_wp2_with (go_at_call 14; refine (letter_any _ _).mono ?_; rintro e wx ⟨rfl, hwx⟩; subst hwx)
                    go_ret2
                    exact ⟨_, _, Or.inr ⟨rfl, Or.inr ⟨j, FW.out, Or.inr ⟨l, FL.out, Or.inr h93⟩⟩⟩, rfl, rfl⟩
                · have hln' : ((l : Int) == (n : Int)) = true := by simp; omega
                  clear hgo hb
                  go_wp2
                  go_ret2
                  exact ⟨_, _, Or.inr ⟨rfl, Or.inr ⟨j, FW.out, Or.inr ⟨l, FL.out, Or.inl (by omega)⟩⟩⟩, rfl, rfl⟩
  · have h91b : (t s != 91) = true := by simp [h91]
    go_enter Yba.func16, Yba.ntmps16
    go_wp2
    go_ret2
    exact ⟨_, _, Or.inr ⟨rfl, Or.inl h91⟩, rfl, rfl⟩

end Go.Proofs.Ybulkbprc
