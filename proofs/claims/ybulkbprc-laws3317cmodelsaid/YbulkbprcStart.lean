/-
  startsLine: its contract.
-/
import Derived.Test.YbulkbprcLeaf
namespace Go.Proofs.Ybulkbprc
open Go.RowKit
set_option linter.unusedVariables false

def StPost (t : Nat → Int) (k : Nat) (cp : Bool) (w : World) (e : Ending) (w' : World) : Prop := ∃ R : Bool, (R = true ↔ SL t k cp) ∧ e = .returned (.bool R) ∧ w' = w

/-- The reader at rb with its text and its way of writing. -/
structure Rdr (t : Nat → Int) (b o n cap rb nb : Nat) (cp : Bool) (w : World) : Prop where
  text : w.cell? ⟨rb, 0, none⟩ = some (.slice (some ⟨b, o, none⟩) n cap)
  note : w.cell? ⟨rb, 1, none⟩ = some (.pointer (some ⟨nb, 0, none⟩))
  flag : w.cell? ⟨nb, 16, none⟩ = some (.bool cp)
  cells : ∀ i, i < n → w.cell? ⟨b, o + i, none⟩ = some (.int .u8 (t i))

theorem ls_zero (t : Nat → Int) : LS t 0 := Or.inl rfl
theorem ls_succ (t : Nat → Int) (q : Nat) : (t q == 10) = true ↔ LS t (q + 1) := by simp [LS]

set_option maxHeartbeats 2000000 in
theorem starts_any (t : Nat → Int) (b o n cap rb nb k : Nat) (cp : Bool) (w : World) (hn : n ≤ 1000000) (hk : k ≤ n) (hr : Rdr t b o n cap rb nb cp w) :
    Calls Yba.prog 9 #[.pointer (some ⟨rb, 0, none⟩), .int .i64 k] w (StPost t k cp w) := by
  obtain ⟨h1, h2, h3, hc⟩ := hr
  have HC : Hid (∀ i, i < n → w.cell? ⟨b, o + i, none⟩ = some (.int .u8 (t i))) := hc
  clear hc
  go_enter Yba.func9, Yba.ntmps9
  go_wp2_with fail
  refine (skip_any b o n cap k t _ hn hk HC.out).mono ?_
  rintro e wx ⟨r, hsk, rfl, hwx⟩
  subst hwx
  have HSK : Hid (Sk t k r) := hsk
  have hrk := hsk.1
  clear hsk
  rcases r with _ | q
  · cases cp
    all_goals
      go_wp2
      go_ret
      exact ⟨true, by simpa [ls_zero] using case_plain HSK.out (by simp), rfl, rfl⟩
  · have hcell := HC.out q (by omega)
    have hq0 : ((q : Int) + 1 == 0) = false := by simp; omega
    by_cases hin : cp = true ∧ t q = 93
    · obtain ⟨rfl, h93⟩ := hin
      have H93 : Hid (t q = 93) := h93
      have hb93 : (t q == 93) = true := by simp [h93]
      have hb10 : (t q == 10) = false := by simp [h93]
      clear h93
      go_wp2
      go_loop [5] (fun v => ∃ j : Nat, j ≤ q ∧ v = .int .i64 j ∧ Hid (∀ i, j ≤ i → i < q → (ltB (t i) || dgB (t i)) = true)) (fun v => (intOf v).toNat)
      case atStart => exact ⟨q, Nat.le_refl _, by go_num, fun i h1 h2 => by omega⟩
      case round =>
        obtain ⟨j, hj, rfl, hb⟩ := hrel
        rcases j with _ | p
        · have BK : Hid (Bk t q 0) := ⟨hj, hb.out, Or.inl rfl⟩
          clear hb
          go_wp2_with fail
          refine (prod_neg b o n cap (-1) t _ hn (by omega)).mono ?_
          rintro e wy ⟨rfl, hwy⟩
          subst hwy
          have FIN : Hid (¬ SL t k true) := case_zero HSK.out (Nat.succ_pos _) H93.out BK.out rfl
          go_wp2
          go_ret
          exact ⟨_, by simpa using FIN.out, rfl, rfl⟩
        · have hcp := HC.out p (by omega)
          cases hlt : ltB (t p)
          · cases hdg : dgB (t p)
            · have BK : Hid (Bk t q (p + 1)) := ⟨hj, hb.out, Or.inr (by simp [hlt, hdg])⟩
              clear hb
              go_wp2_with (first | (go_at_call 15; refine (digit_any _ _).mono ?_; rintro e wy ⟨rfl, hwy⟩; subst hwy) | (go_at_call 14; refine (letter_any _ _).mono ?_; rintro e wy ⟨rfl, hwy⟩; subst hwy))
              refine (prod_in b o n cap p t _ hn (by omega) HC.out).mono ?_
              rintro e wy ⟨v, ok, hpn, rfl, hwy⟩
              subst hwy
              cases ok
              · have FIN : Hid (¬ SL t k true) := case_no HSK.out hk (Nat.succ_pos _) H93.out BK.out hpn
                clear hpn hlt hdg hcp
                go_wp2
                go_ret
                exact ⟨_, by simpa using FIN.out, rfl, rfl⟩
              · have hv := yes_end (Nat.succ_pos _) H93.out BK.out hpn
                subst hv
                have HPN : Hid (PN t n p _ true) := hpn
                clear hpn hlt hdg hcp
                go_wp2_with fail
                refine (skip_any b o n cap p t _ hn (by omega) HC.out).mono ?_
                rintro e wz ⟨r2, hsk2, rfl, hwz⟩
                subst hwz
                have FIN : Hid (LS t r2 ↔ SL t k true) := case_yes HSK.out (Nat.succ_pos _) H93.out BK.out HPN.out hsk2
                have hr2 := hsk2.1
                clear hsk2 hcell
                rcases r2 with _ | q2
                · go_wp2
                  go_ret
                  exact ⟨_, by simpa [ls_zero] using FIN.out, rfl, rfl⟩
                · have hcell := HC.out q2 (by omega)
                  have hq2 : ((q2 : Int) + 1 == 0) = false := by simp; omega
                  have FIN2 : Hid ((t q2 == 10) = true ↔ SL t k true) := (ls_succ t q2).trans FIN.out
                  clear FIN
                  go_wp2
                  go_ret
                  exact ⟨_, FIN2.out, rfl, rfl⟩
            · have ST : Hid (∀ i, p ≤ i → i < q → (ltB (t i) || dgB (t i)) = true) := bk_step hb.out (by simp [hdg])
              clear hb
              go_wp2_with (first | (go_at_call 15; refine (digit_any _ _).mono ?_; rintro e wy ⟨rfl, hwy⟩; subst hwy) | (go_at_call 14; refine (letter_any _ _).mono ?_; rintro e wy ⟨rfl, hwy⟩; subst hwy))
              go_round
              case rel => exact ⟨p, by omega, by go_num, ST.out⟩
              case measure => simp [intOf]
          · have ST : Hid (∀ i, p ≤ i → i < q → (ltB (t i) || dgB (t i)) = true) := bk_step hb.out (by simp [hlt])
            clear hb
            go_wp2_with (go_at_call 14; refine (letter_any _ _).mono ?_; rintro e wy ⟨rfl, hwy⟩; subst hwy)
            go_round
            case rel => exact ⟨p, by omega, by go_num, ST.out⟩
            case measure => simp [intOf]
    · have FIN : Hid ((t q == 10) = true ↔ SL t k cp) := (ls_succ t q).trans (case_plain HSK.out (fun h => hin ⟨h.1, by simpa using h.2.2⟩))
      cases cp
      · clear hin
        go_wp2
        go_ret
        exact ⟨_, FIN.out, rfl, rfl⟩
      · have hb93 : (t q == 93) = false := by simpa using hin
        clear hin
        go_wp2
        go_ret
        exact ⟨_, FIN.out, rfl, rfl⟩

end Go.Proofs.Ybulkbprc
