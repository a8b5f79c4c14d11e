/-
  number: its contract; LawS3321CExact's walk.
-/
import Derived.Test.YbulkbptgProg
import Derived.WalkKit
import Derived.WalkLawsBesides
import Derived.Below
import Derived.OpenShut
import Derived.Laws.BytesArg
namespace Go.Proofs.Ybulkbptg
open Go.RowKit
set_option linter.unusedVariables false

/-- the bytes xs lie at ⟨b, off⟩ -/
def At (w : World) (b off : Nat) (xs : List Int) : Prop := ∀ i, i < xs.length → w.cell? ⟨b, off + i, none⟩ = some (.int .u8 (xs.getD i 0))

theorem conv31 {w : World} {b off : Nat} {xs : List Int} (cap : Nat) (h : At w b off xs) : (convert 31 9 (.slice (some ⟨b, off, none⟩) xs.length cap)).run Yba.prog w = .ok (.string (strOfNums xs)) w :=
  run_convert_bytes_arg w 31 5 Yba.underlying31 Yba.underlying5 b off xs.length cap xs rfl h 9 Yba.underlying9
theorem conv52 {w : World} {b off : Nat} {xs : List Int} (cap : Nat) (h : At w b off xs) : (convert 52 9 (.slice (some ⟨b, off, none⟩) xs.length cap)).run Yba.prog w = .ok (.string (strOfNums xs)) w :=
  run_convert_bytes_arg w 52 5 Yba.underlying52 Yba.underlying5 b off xs.length cap xs rfl h 9 Yba.underlying9

/-- a number's first byte -/
def okB (c : Int) : Bool := decide (c = 45 ∨ (48 ≤ c ∧ c ≤ 57))

set_option maxRecDepth 100000 in
theorem num_yes (b off cap n : Nat) (xs : List Int) (w : World) (hn : n = xs.length) (h0 : 0 < n) (hl : n ≤ 100000) (h : At w b off xs) (hok : okB (xs.getD 0 0) = true) :
    Calls Yba.prog 9 #[.slice (some ⟨b, off, none⟩) n cap] w fun e w' => e = .returned (.tuple #[.string (strOfNums xs), .nilIface]) ∧ w' = w := by
  have hc := h 0 (by omega)
  have hv := conv52 cap h
  rw [← hn] at hv
  rw [Nat.add_zero] at hc
  generalize xs.getD 0 0 = c at *
  simp only [okB, decide_eq_true_eq] at hok
  clear h hn
  go_enter Yba.func9, Yba.ntmps9
  go_wp2
  all_goals
    go_ret2
    exact ⟨rfl, rfl⟩

set_option maxRecDepth 100000 in
theorem num_no (b off cap n : Nat) (xs : List Int) (w : World) (hn : n = xs.length) (h0 : 0 < n) (hl : n ≤ 100000) (h : At w b off xs) (hok : okB (xs.getD 0 0) = false) :
    Calls Yba.prog 9 #[.slice (some ⟨b, off, none⟩) n cap] w fun e w' => e = .returned (.tuple #[.string ⟨#[]⟩, .iface 54 (.pointer (some ⟨w.heap.size, 0, none⟩))]) ∧ Below w.heap.size w w' := by
  have hc := h 0 (by omega)
  rw [Nat.add_zero] at hc
  generalize xs.getD 0 0 = c at *
  simp only [okB, decide_eq_false_iff_not] at hok
  clear h hn
  have h45 : (c != 45) = true := by rw [bne_iff_ne]; omega
  rcases (show c < 48 ∨ 57 < c by omega) with g | g
  all_goals
    clear hok
    go_enter Yba.func9, Yba.ntmps9
    go_wp2
    go_ret2
    exact ⟨rfl, (Below.refl _ _).alloc (Nat.le_refl _) _⟩

theorem At.below {w w' : World} {b off : Nat} {xs : List Int} (h : At w b off xs) (hb : Below w.heap.size w w') (h0 : b < w.heap.size) : At w' b off xs := fun i hi => (hb.cell (by exact h0)).trans (h i hi)

set_option maxRecDepth 100000 in
set_option maxHeartbeats 1000000 in
theorem exact_walk (b off cap n : Nat) (xs : List Int) (w : World) (hn : n = xs.length) (h0 : 0 < n) (hl : n ≤ 4096) (h : At w b off xs) :
    Calls Yba.prog 5 #[.slice (some ⟨b, off, none⟩) n cap] w fun e w' => e = .returned (.bool true) ∧ Below w.heap.size w w' := by
  have hb : b < w.heap.size := World.block_lt_of_cell? w _ (h 0 (by omega))
  have hc := h 0 (by omega)
  have hv := conv31 cap h
  rw [← hn] at hv
  rw [Nat.add_zero] at hc
  have HA : Hid (At w b off xs) := h
  have HN : Hid (n = xs.length) := hn
  have g1 : ((n : Int) == 0) = false := by simp; omega
  have g2 : decide ((4096 : Int) < (n : Int)) = false := by simp; omega
  clear h hn
  cases hok : okB (xs.getD 0 0)
  · have HOK : Hid (okB (xs.getD 0 0) = false) := hok
    have hok' : ¬ (xs.getD 0 0 = 45 ∨ (48 ≤ xs.getD 0 0 ∧ xs.getD 0 0 ≤ 57)) := by simpa [okB] using hok
    clear hok
    obtain ⟨c, hcc⟩ : ∃ c, c = xs.getD 0 0 := ⟨_, rfl⟩
    rw [← hcc] at hc hok'
    clear hcc
    have h45 : (c == 45) = false := by simp; omega
    rcases (show c < 48 ∨ 57 < c by omega) with g | g
    all_goals
      clear hok'
      go_enter Yba.func5, Yba.ntmps5
      go_wp2_with fail
      refine (num_no b off cap n xs _ HN.out h0 (by omega) HA.out HOK.out).mono ?_
      rintro e w1 ⟨rfl, hb1⟩
      have hv1 := conv31 cap (HA.out.below hb1 hb)
      rw [← HN.out] at hv1
      go_wp2
      go_ret
      exact ⟨rfl, hb1⟩
  · have HOK : Hid (okB (xs.getD 0 0) = true) := hok
    have hok' : (xs.getD 0 0 = 45 ∨ (48 ≤ xs.getD 0 0 ∧ xs.getD 0 0 ≤ 57)) := by simpa [okB] using hok
    clear hok
    obtain ⟨c, hcc⟩ : ∃ c, c = xs.getD 0 0 := ⟨_, rfl⟩
    rw [← hcc] at hc hok'
    clear hcc
    rcases (show (c == 45) = true ∨ ((c == 45) = false ∧ 48 ≤ c ∧ c ≤ 57) by
      rcases hok' with e | e
      · left; simp [e]
      · right; exact ⟨by simp; omega, e⟩) with g | ⟨g, g', g''⟩
    all_goals
      clear hok'
      go_enter Yba.func5, Yba.ntmps5
      go_wp2_with fail
      refine (num_yes b off cap n xs _ HN.out h0 (by omega) HA.out HOK.out).mono ?_
      rintro e w1 ⟨rfl, hw1⟩
      subst hw1
      go_wp2
      go_ret
      exact ⟨by simp, Below.refl _ _⟩

end Go.Proofs.Ybulkbptg
