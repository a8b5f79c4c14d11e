/-
  zzs3317cmodel: its contract.
-/
import Derived.Test.YbulkbprcStart
import Derived.Test.YbulkbprcPlainM
namespace Go.Proofs.Ybulkbprc
open Go.RowKit
set_option linter.unusedVariables false

theorem dg_iff (c : Int) : dgB c = true ↔ 48 ≤ c ∧ c ≤ 57 := by simp [dgB]
theorem lt_iff (c : Int) : ltB c = true ↔ (97 ≤ c ∧ c ≤ 122) ∨ (65 ≤ c ∧ c ≤ 90) := by simp [ltB]

theorem fw_stop {p : Nat → Bool} {i n j : Nat} (h1 : i ≤ j) (h2 : j ≤ n) (h : ∀ q, i ≤ q → q < j → p q = true) (hno : j < n → p j = false) : Fw p i n j :=
  ⟨h1, h2, h, by
    by_cases e : j < n
    · exact Or.inr (hno e)
    · exact Or.inl (by omega)⟩

set_option maxHeartbeats 8000000 in
theorem model_any (t : Nat → Int) (b o n cap k : Nat) (cp : Bool) (w : World) (hn : n ≤ 1000000) (hk : k ≤ n) (hc : ∀ i, i < n → w.cell? ⟨b, o + i, none⟩ = some (.int .u8 (t i))) :
    Calls Yba.prog 10 #[.slice (some ⟨b, o, none⟩) n cap, .int .i64 k, .bool cp] w (StPost t k cp w) := by
  have HC : Hid (∀ i, i < n → w.cell? ⟨b, o + i, none⟩ = some (.int .u8 (t i))) := hc
  clear hc
  go_enter Yba.func10, Yba.ntmps10
  go_wp2
  go_loop [7, 8] (fun ls i => ∃ (q s : Nat), q ≤ k ∧ i = .int .i64 q ∧ ls = .int .i64 s ∧ Hid (Ln t q s)) (fun _ i => k - (intOf i).toNat)
  case atStart => exact ⟨0, 0, Nat.zero_le _, rfl, rfl, ⟨Nat.le_refl _, Or.inl rfl, fun i h1 h2 => by omega⟩⟩
  case round =>
    obtain ⟨q, s, hq, rfl, rfl, hln⟩ := hrel
    by_cases hqk : q < k
    · have hcell := HC.out q (by omega)
      by_cases h10 : t q = 10
      · have hb10 : (t q == 10) = true := by simp [h10]
        have NW : Hid (Ln t (q + 1) (q + 1)) := ln_new h10
        clear h10
        go_wp2
        go_round
        case rel => exact ⟨q + 1, q + 1, by omega, by go_num, by go_num, NW⟩
        case measure => simp [intOf]; omega
      · have hb10 : (t q == 10) = false := by simp [h10]
        have NW : Hid (Ln t (q + 1) s) := ln_step hln.out h10
        clear h10
        go_wp2
        go_round
        case rel => exact ⟨q + 1, s, by omega, by go_num, rfl, NW⟩
        case measure => simp [intOf]; omega
    · obtain rfl : q = k := by omega
      have hsk := hln.out.1
      go_wp2
      -- the blanks ahead
      go_loop [9] (fun v => ∃ j : Nat, s ≤ j ∧ j ≤ q ∧ v = .int .i64 j ∧ Hid (∀ i, s ≤ i → i < j → blB (t i) = true)) (fun v => q - (intOf v).toNat)
      case atStart => exact ⟨s, Nat.le_refl _, hsk, rfl, fun i h1 h2 => by omega⟩
      case round =>
        obtain ⟨a, ha1, ha2, rfl, hb⟩ := hrel
        by_cases haq : a < q
        · have hcell := HC.out a (by omega)
          have haq' : ((a : Int) == (q : Int)) = false := by simp; omega
          cases hbl : blB (t a)
          · have FA : Hid (Fw (fun i => blB (t i)) s q a) := fw_stop ha1 ha2 hb.out (fun _ => hbl)
            clear hb
            cases cp
            · have FIN : Hid (¬ SL t q false) := m_uncopied hln.out FA.out haq
              go_wp2_with (go_at_call 17; refine (blank_any _ _).mono ?_; rintro e wx ⟨rfl, hwx⟩; subst hwx)
              go_ret
              exact ⟨_, by simpa using FIN.out, rfl, rfl⟩
            · by_cases h91 : t a = 91
              · have H91 : Hid (t a = 91) := h91
                have hb91 : (t a != 91) = false := by simp [h91]
                clear h91
                go_wp2_with (go_at_call 17; refine (blank_any _ _).mono ?_; rintro e wx ⟨rfl, hwx⟩; subst hwx)
                clear hcell hbl hb91
                -- the digits
                go_loop [9] (fun v => ∃ d : Nat, a + 1 ≤ d ∧ d ≤ q ∧ v = .int .i64 d ∧ Hid (∀ i, a + 1 ≤ i → i < d → dgB (t i) = true)) (fun v => q - (intOf v).toNat)
                case atStart => exact ⟨a + 1, Nat.le_refl _, by omega, by go_num, fun i h1 h2 => by omega⟩
                case round =>
                  obtain ⟨d, hd1, hd2, rfl, hb⟩ := hrel
                  by_cases hgo : d < q ∧ dgB (t d) = true
                  · obtain ⟨hdq, hdg⟩ := hgo
                    have hcell := HC.out d (by omega)
                    have ST : Hid (∀ i, a + 1 ≤ i → i < d + 1 → dgB (t i) = true) := fw_step hb.out hdg
                    rw [dg_iff] at hdg
                    obtain ⟨g1, g2⟩ := hdg
                    clear hb
                    go_wp2
                    go_round
                    case rel => exact ⟨d + 1, by omega, by omega, by go_num, ST⟩
                    case measure => simp [intOf]; omega
                  · have FD : Hid (Fw (fun i => dgB (t i)) (a + 1) q d) := fw_stop hd1 hd2 hb.out (fun h => by simpa [h] using hgo)
                    clear hb
                    by_cases hda : d = a + 1
                    · have FIN : Hid (¬ SL t q true) := m_nodigit hln.out FA.out haq (hda ▸ FD.out)
                      have hb : ((d : Int) == (a : Int) + 1) = true := by simp; omega
                      clear hda
                      by_cases hdq : d < q
                      · have hcell := HC.out d (by omega)
                        have hdg : ¬ dgB (t d) = true := fun h => hgo ⟨hdq, h⟩
                        rw [dg_iff] at hdg
                        clear hgo
                        rcases (show t d < 48 ∨ 57 < t d by omega) with g | g
                        all_goals
                          clear hdg
                          go_wp2
                          go_ret
                          exact ⟨_, by simpa using FIN.out, rfl, rfl⟩
                      · clear hgo
                        go_wp2
                        go_ret
                        exact ⟨_, by simpa using FIN.out, rfl, rfl⟩
                    · have HDA : Hid (d ≠ a + 1) := hda
                      have hb : ((d : Int) == (a : Int) + 1) = false := by simp; omega
                      clear hda
                      by_cases hdq : d < q
                      · have hcell := HC.out d (by omega)
                        have hdg : ¬ dgB (t d) = true := fun h => hgo ⟨hdq, h⟩
                        rw [dg_iff] at hdg
                        clear hgo
                        rcases (show t d < 48 ∨ 57 < t d by omega) with g | g
                        all_goals
                          clear hdg
                          go_wp2
                          clear g hcell
                          -- the letters
                          go_loop [9] (fun v => ∃ l : Nat, d ≤ l ∧ l ≤ q ∧ v = .int .i64 l ∧ Hid (∀ i, d ≤ i → i < l → ltB (t i) = true)) (fun v => q - (intOf v).toNat)
                          case atStart => exact ⟨d, Nat.le_refl _, hd2, by go_num, fun i h1 h2 => by omega⟩
                          case round =>
                            obtain ⟨l, hl1, hl2, rfl, hb'⟩ := hrel
                            by_cases hlq : l < q
                            · have hcell := HC.out l (by omega)
                              have hlq' : ((l : Int) == (q : Int)) = false := by simp; omega
                              cases hlt : ltB (t l)
                              · have FL : Hid (Fw (fun i => ltB (t i)) d q l) := fw_stop hl1 hl2 hb'.out (fun _ => hlt)
                                clear hb'
                                by_cases h93 : t l = 93
                                · have H93 : Hid (t l = 93) := h93
                                  have hb93 : (t l != 93) = false := by simp [h93]
                                  have g1 : t l ≤ 93 := by omega
                                  have g2 : 93 ≤ t l := by omega
                                  clear h93 hlt
                                  go_wp2
                                  clear hcell hb93 g1 g2
                                  -- the blanks behind
                                  go_loop [9] (fun v => ∃ m : Nat, l + 1 ≤ m ∧ m ≤ q ∧ v = .int .i64 m ∧ Hid (∀ i, l + 1 ≤ i → i < m → blB (t i) = true)) (fun v => q - (intOf v).toNat)
                                  case atStart => exact ⟨l + 1, Nat.le_refl _, by omega, by go_num, fun i h1 h2 => by omega⟩
                                  case round =>
                                    obtain ⟨m, hm1, hm2, rfl, hb'⟩ := hrel
                                    by_cases hmq : m < q
                                    · have hcell := HC.out m (by omega)
                                      have hmq' : ((m : Int) == (q : Int)) = false := by simp; omega
                                      cases hbl : blB (t m)
                                      · have FIN : Hid (m = q ↔ SL t q true) := m_end hln.out FA.out haq H91.out FD.out HDA.out FL.out hlq H93.out (fw_stop hm1 hm2 hb'.out (fun _ => hbl))
                                        clear hb'
                                        go_wp2_with (go_at_call 17; refine (blank_any _ _).mono ?_; rintro e wx ⟨rfl, hwx⟩; subst hwx)
                                        go_ret
                                        exact ⟨_, by rw [← FIN.out]; simp; omega, rfl, rfl⟩
                                      · have ST : Hid (∀ i, l + 1 ≤ i → i < m + 1 → blB (t i) = true) := fw_step hb'.out hbl
                                        clear hb'
                                        go_wp2_with (go_at_call 17; refine (blank_any _ _).mono ?_; rintro e wx ⟨rfl, hwx⟩; subst hwx)
                                        go_round
                                        case rel => exact ⟨m + 1, by omega, by omega, by go_num, ST⟩
                                        case measure => simp [intOf]; omega
                                    · obtain rfl : m = q := by omega
                                      have FIN : Hid (m = m ↔ SL t m true) := m_end hln.out FA.out haq H91.out FD.out HDA.out FL.out hlq H93.out ⟨hm1, Nat.le_refl _, hb'.out, Or.inl rfl⟩
                                      clear hb'
                                      go_wp2
                                      go_ret
                                      exact ⟨_, by rw [← FIN.out]; simp, rfl, rfl⟩
                                · have FIN : Hid (¬ SL t q true) := m_noend hln.out FA.out haq FD.out FL.out (Or.inr h93)
                                  have hb93 : (t l != 93) = true := by simp [h93]
                                  have hlt' : ¬ ltB (t l) = true := by simp [hlt]
                                  rw [lt_iff] at hlt'
                                  clear hlt
                                  rcases (show t l < 65 ∨ (90 < t l ∧ t l < 97) ∨ 122 < t l by omega) with g | ⟨g, g'⟩ | g
                                  all_goals
                                    clear hlt' h93
                                    go_wp2
                                    go_ret
                                    exact ⟨_, by simpa using FIN.out, rfl, rfl⟩
                              · have ST : Hid (∀ i, d ≤ i → i < l + 1 → ltB (t i) = true) := fw_step hb'.out hlt
                                rw [lt_iff] at hlt
                                clear hb'
                                rcases hlt with ⟨g1, g2⟩ | ⟨g1, g2⟩
                                all_goals
                                  go_wp2
                                  go_round
                                  case rel => exact ⟨l + 1, by omega, by omega, by go_num, ST⟩
                                  case measure => simp [intOf]; omega
                            · obtain rfl : l = q := by omega
                              have FIN : Hid (¬ SL t l true) := m_noend hln.out FA.out haq FD.out ⟨hl1, Nat.le_refl _, hb'.out, Or.inl rfl⟩ (Or.inl rfl)
                              clear hb'
                              go_wp2
                              go_ret
                              exact ⟨_, by simpa using FIN.out, rfl, rfl⟩
                      · obtain rfl : d = q := by omega
                        have FIN : Hid (¬ SL t d true) := m_noend hln.out FA.out haq FD.out (l := d) ⟨Nat.le_refl _, Nat.le_refl _, fun i h1 h2 => by omega, Or.inl rfl⟩ (Or.inl rfl)
                        clear hgo
                        go_wp2
                        refine wp_loop_rounds 1 ?_
                        rw [rounds_succ]
                        go_wp2
                        go_ret
                        exact ⟨_, by simpa using FIN.out, rfl, rfl⟩
              · have FIN : Hid (¬ SL t q true) := m_no91 hln.out FA.out haq h91
                have hb91 : (t a != 91) = true := by simp [h91]
                go_wp2_with (go_at_call 17; refine (blank_any _ _).mono ?_; rintro e wx ⟨rfl, hwx⟩; subst hwx)
                go_ret
                exact ⟨_, by simpa using FIN.out, rfl, rfl⟩
          · have ST : Hid (∀ i, s ≤ i → i < a + 1 → blB (t i) = true) := fw_step hb.out hbl
            clear hb
            go_wp2_with (go_at_call 17; refine (blank_any _ _).mono ?_; rintro e wx ⟨rfl, hwx⟩; subst hwx)
            go_round
            case rel => exact ⟨a + 1, by omega, by omega, by go_num, ST⟩
            case measure => simp [intOf]; omega
        · obtain rfl : a = q := by omega
          have FIN : Hid (SL t a cp) := m_blank hln.out ⟨ha1, Nat.le_refl _, hb.out, Or.inl rfl⟩
          clear hb
          go_wp2
          go_ret
          exact ⟨_, by simpa using FIN.out, rfl, rfl⟩

end Go.Proofs.Ybulkbprc
