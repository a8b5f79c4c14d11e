/-
  (*Set).find: its contract.
-/
import Derived.Test.YbulkbpssLeaf
import Derived.Test.YbulkbpssPlain
import Derived.WalkSpells
import Derived.Deep.QuietTactic
import Derived.BigQuiet
namespace Go.Proofs.Ybulkbpss
open Go.RowKit
set_option linter.unusedVariables false

/-- A settled set at bs: m entries at be, an index of n places at bi. -/
structure SetAt (w : World) (bs be bi m n cap : Nat) (em eh pg : Nat → Int) (T : Nat → Nat) : Prop where
  ent : w.cell? ⟨bs, 5, none⟩ = some (.slice (some ⟨be, 0, none⟩) m cap)
  idx : w.cell? ⟨bs, 8, none⟩ = some (.slice (some ⟨bi, 0, none⟩) n n)
  hash : ∀ i, i < m → w.cell? ⟨be, i * 7, none⟩ = some (.int .u64 (eh i))
  page : ∀ i, i < m → w.cell? ⟨be, i * 7 + 3, none⟩ = some (.int .u32 (pg i))
  mask : ∀ i, i < m → w.cell? ⟨be, i * 7 + 4, none⟩ = some (.int .i32 (em i))
  tab : ∀ a, a < n → w.cell? ⟨bi, a, none⟩ = some (.int .i32 (T a))
  ti : TI (fun e => slN (em e) (eh e) n) n T m
  mn : m < n
  nl : n ≤ 100000
  ds : Distinct em eh m

theorem SetAt.below {w w' : World} {bs be bi m n cap : Nat} {em eh pg : Nat → Int} {T : Nat → Nat} (h : SetAt w bs be bi m n cap em eh pg T) (hb : Below w.heap.size w w') : SetAt w' bs be bi m n cap em eh pg T where
  ent := cell_later hb h.ent
  idx := cell_later hb h.idx
  hash := fun i hi => cell_later hb (h.hash i hi)
  page := fun i hi => cell_later hb (h.page i hi)
  mask := fun i hi => cell_later hb (h.mask i hi)
  tab := fun i hi => cell_later hb (h.tab i hi)
  ti := h.ti
  mn := h.mn
  nl := h.nl
  ds := h.ds

def ptrOf (be : Nat) : Option Nat → Value
  | some i => .pointer (some ⟨be, i * 7, none⟩)
  | none => .pointer none

def FindPost (be m : Nat) (em eh : Nat → Int) (id h : Int) (w : World) (e : Ending) (w' : World) : Prop := ∃ r : Option Nat, Found em eh m id h r ∧ e = .returned (ptrOf be r) ∧ ∃ q, w' = w.drewN q

set_option maxRecDepth 100000 in
set_option maxHeartbeats 2000000 in
theorem find_any (bs be bi m n cap : Nat) (em eh pg : Nat → Int) (T : Nat → Nat) (id h : Int) (w : World) (hS : SetAt w bs be bi m n cap em eh pg T) :
    Calls Yba.prog 6 #[.pointer (some ⟨bs, 0, none⟩), .int .i32 id, .int .u64 h] w (FindPost be m em eh id h w) := by
  have HS : Hid (SetAt w bs be bi m n cap em eh pg T) := hS
  have h1 := hS.ent
  have h2 := hS.idx
  have hn : 0 < n := by have := hS.mn; omega
  have hn' := hS.nl
  have hmn := hS.mn
  clear hS
  obtain ⟨s, hs⟩ : ∃ s, s = slN id h n := ⟨_, rfl⟩
  have hsn : s < n := by rw [hs]; exact slN_lt id h n hn
  have HSL : Hid (∀ e, em e = id → eh e = h → (fun e => slN (em e) (eh e) n) e = s) := fun e h1 h2 => by rw [hs]; simp only [h1, h2]
  have HSS : Hid (s = slN id h n) := hs
  clear hs
  go_enter Yba.func6, Yba.ntmps6
  go_wp2_with fail
  refine (slot_any id h n _ hn (by omega)).mono ?_
  rintro e w0 ⟨rfl, hw0⟩
  subst hw0
  rw [← HSS.out]
  go_wp2
  go_loopw [8] (fun v wr => ∃ j : Nat, j < n ∧ v = .int .i64 (pos s n j) ∧ Hid (∀ d, d < j → T (pos s n d) ≠ 0 ∧ ¬ (em (T (pos s n d) - 1) = id ∧ eh (T (pos s n d) - 1) = h)) ∧ ∃ q, wr = w0.drewN q) (fun v _ => n - dist s n (intOf v).toNat)
  case atStart => exact ⟨0, hn, by rw [pos_zero hsn], fun d hd => by omega, 0, rfl⟩
  case round =>
    obtain ⟨j, hj, rfl, hno, q, rfl⟩ := hrel
    obtain ⟨a, ha⟩ : ∃ a, a = pos s n j := ⟨_, rfl⟩
    have han : a < n := by rw [ha]; exact pos_lt hsn hj
    rw [← ha]
    have HA : Hid (a = pos s n j) := ha
    clear ha
    have hta := HS.out.tab a han
    have hle := HS.out.ti.le a han
    rcases hT : T a with _ | e
    · rw [hT] at hta
      have FIN : Hid (Found em eh m id h none) := HS.out.ti.miss hj HSL.out (by rw [← HA.out]; exact hT) hno.out
      clear hno hT hle
      go_wp2
      go_ret
      exact ⟨none, FIN.out, rfl, q, rfl⟩
    · rw [hT] at hta hle
      have c1 := HS.out.mask e (by omega)
      have c2 := HS.out.hash e (by omega)
      have HT : Hid (T a = e + 1) := hT
      clear hT
      have he : ((e : Int) + 1 != 0) = true := by rw [bne_iff_ne]; omega
      have hem : (e : Int) < (m : Int) := by omega
      by_cases hk : em e = id ∧ eh e = h
      · have k1 : (em e == id) = true := by simp [hk.1]
        have k2 : (eh e == h) = true := by simp [hk.2]
        have FIN : Hid (Found em eh m id h (some e)) := ⟨by omega, hk.1, hk.2⟩
        clear hk hno
        go_wp2_with fail
        go_quiet (fail)
        go_wp2
        go_ret
        exact ⟨some e, FIN.out, rfl, _, rfl⟩
      · have FULL : Hid (∀ d, d < j + 1 → T (pos s n d) ≠ 0 ∧ ¬ (em (T (pos s n d) - 1) = id ∧ eh (T (pos s n d) - 1) = h)) := fun d hd => by
          by_cases e1 : d = j
          · rw [e1, ← HA.out, HT.out]; exact ⟨by omega, by simpa using hk⟩
          · exact hno.out d (by omega)
        have hj1 : j + 1 < n := HS.out.ti.room hmn hsn hj (fun d hd => (FULL.out d hd).1)
        have hnx := next_any a n
        have HNX : Hid (∀ w, a < n → n ≤ 1000000 → Calls Yba.prog 8 #[.int .i64 a, .int .i64 n] w fun e w' => e = .returned (.int .i64 (pos s n (j + 1))) ∧ w' = w) := fun w h1 h2 => by
          have := hnx w h1 h2
          rw [HA.out, pos_next hsn hj1, ← HA.out] at this
          exact this
        clear hnx hno
        by_cases hk1 : em e = id
        · have k1 : (em e == id) = true := by simp [hk1]
          have k2 : (eh e == h) = false := by simp; exact fun h2 => hk ⟨hk1, h2⟩
          clear hk hk1
          go_wp2_with fail
          go_quiet (fail)
          go_wp2_with (go_at_call 8; refine (HNX.out _ han (by omega)).mono ?_; rintro e1 w1 ⟨rfl, rfl⟩)
          go_roundw
          case rel => exact ⟨j + 1, hj1, rfl, FULL, _, rfl⟩
          case measure => simp only [intOf, Int.toNat_natCast]; rw [HA.out, dist_pos hsn hj, dist_pos hsn hj1]; omega
        · have k1 : (em e == id) = false := by simp [hk1]
          clear hk hk1
          go_wp2_with fail
          go_quiet (fail)
          go_wp2_with (go_at_call 8; refine (HNX.out _ han (by omega)).mono ?_; rintro e1 w1 ⟨rfl, rfl⟩)
          go_roundw
          case rel => exact ⟨j + 1, hj1, rfl, FULL, _, rfl⟩
          case measure => simp only [intOf, Int.toNat_natCast]; rw [HA.out, dist_pos hsn hj, dist_pos hsn hj1]; omega

end Go.Proofs.Ybulkbpss
