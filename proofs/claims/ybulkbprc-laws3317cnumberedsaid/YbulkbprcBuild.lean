/-
  zzs3317cbuild: its contract.
-/
import Derived.Test.YbulkbprcLeaf
namespace Go.Proofs.Ybulkbprc
open Go.RowKit
set_option linter.unusedVariables false

theorem Yba.info5 : (Yba.prog.info? 5).map (fun i => (i.zero, i.size, i.bytes)) = some (some (.int .u8 0), 1, 1) := by kernel_rfl

/-- the letter that the toy alphabet has for a byte -/
def al (c : Int) : Int := ([32, 9, 10, 91, 93, 49, 97, 57, 90, 45] : List Int).getD (c % 10).toNat 0

theorem al_at (c : Int) (h : (c % 10).toNat < (ByteArray.mk #[32, 9, 10, 91, 93, 49, 97, 57, 90, 45]).size) :
    (((ByteArray.mk #[32, 9, 10, 91, 93, 49, 97, 57, 90, 45])[(c % 10).toNat]'h).toNat : Int) = al c := by
  unfold al
  generalize (c % 10).toNat = q at h
  have hq : q < 10 := h
  match q, hq with
  | 0, _ => rfl
  | 1, _ => rfl
  | 2, _ => rfl
  | 3, _ => rfl
  | 4, _ => rfl
  | 5, _ => rfl
  | 6, _ => rfl
  | 7, _ => rfl
  | 8, _ => rfl
  | 9, _ => rfl

/-- the row behind k rounds -/
def rowAt (z : Nat → Int) (n k : Nat) : List Value := (List.range n).map fun i => .int .u8 (if i < k then al (z i) else 0)

theorem rowAt_zero (z : Nat → Int) (n : Nat) : rowAt z n 0 = List.replicate n (.int .u8 0) := by
  apply List.ext_getElem
  · simp [rowAt]
  · intro i h1 h2; simp [rowAt]
theorem rowAt_step (z : Nat → Int) (n k : Nat) (hk : k < n) : (rowAt z n k).set k (.int .u8 (al (z k))) = rowAt z n (k + 1) := by
  apply List.ext_getElem
  · simp [rowAt]
  · intro i h1 h2
    simp only [rowAt, List.getElem_set, List.getElem_map, List.getElem_range]
    by_cases e : k = i
    · subst e; simp
    · have : (i < k) = (i < k + 1) := by apply propext; omega
      simp [e, this]

def built (z : Nat → Int) (n : Nat) : List Int := (List.range n).map fun i => al (z i)
theorem rowAt_full (z : Nat → Int) (n : Nat) : rowAt z n n = (built z n).map (Value.int .u8) := by
  apply List.ext_getElem
  · simp [rowAt, built]
  · intro i h1 h2
    simp [rowAt, built] at h1 h2 ⊢
    intro h; omega

def BuildPost (z : Nat → Int) (n : Nat) (w : World) (e : Ending) (w' : World) : Prop :=
  e = .returned (.slice (some ⟨w.heap.size, 0, none⟩) n n) ∧ w'.ownsRow w.heap.size 5 1 (.slice (some ⟨w.heap.size, 0, none⟩) n n) n ((built z n).map (Value.int .u8)) ∧ Below w.heap.size w w'

set_option maxRecDepth 100000 in
set_option maxHeartbeats 1000000 in
theorem build_some (b off n cap : Nat) (z : Nat → Int) (w : World) (hn : n ≤ 1000000) (hz : ∀ i, i < n → 0 ≤ z i ∧ z i ≤ 255) (hb : b < w.heap.size)
    (hc : ∀ i, i < n → w.cell? ⟨b, off + i, none⟩ = some (.int .u8 (z i))) :
    Calls Yba.prog 8 #[.slice (some ⟨b, off, none⟩) n cap] w (BuildPost z n w) := by
  obtain ⟨i0, hi, hz0, hz1, hz2⟩ := info_parts Yba.info5
  have HC : Hid (∀ i, i < n → w.cell? ⟨b, off + i, none⟩ = some (.int .u8 (z i))) := hc
  have HZ : Hid (∀ i, i < n → 0 ≤ z i ∧ z i ≤ 255) := hz
  clear hc hz
  go_enter Yba.func8, Yba.ntmps8
  go_wp2_with (at_make; refine wpList_make_full _ rfl _ _ 23 rfl w.heap.size 5 i0 (.int .u8 0) 1 Yba.underlying23 hi hz0 hz1 _ _ _ _ n rfl rfl rfl rfl ?b2 ?b3 (Nat.le_refl _) ?_)
  case b2 => rw [hz2]; omega
  case b3 => unfold maxLen; omega
  intro w0 hown0 hgrow0
  have hsz : w.heap.size < w0.heap.size := (hown0.lt _ rfl).2
  go_wp2
  go_loopw [11] (fun v wr => ∃ k : Nat, k ≤ n ∧ v = .int .i64 k ∧ wr.ownsRow w.heap.size 5 1 (.slice (some ⟨w.heap.size, 0, none⟩) n n) n (rowAt z n k) ∧ Below w.heap.size w wr)
    (fun v _ => n - (intOf v).toNat)
  case atStart => exact ⟨0, Nat.zero_le _, rfl, by rw [rowAt_zero]; simpa [toList_madeCells_one] using hown0, (Below.refl _ _).grown hgrow0 (Nat.le_refl _) (fun k h => by cases h)⟩
  case round =>
    obtain ⟨k, hk, rfl, hown, hbel⟩ := hrel
    by_cases hlt : k < n
    · have hcell : wr.cell? ⟨b, off + k, none⟩ = some (.int .u8 (z k)) := (hbel.cell (by exact hb)).trans (HC.out k hlt)
      have hzk := HZ.out k hlt
      have hold : wr.cell? ⟨w.heap.size, k, none⟩ = some (.int .u8 0) := by
        rw [hown.cellAt k (by omega)]; simp [rowAt, hlt]
      have hfr := hown.frozenAt k
      go_wp2
      go_roundw
      case rel => exact ⟨k + 1, by omega, by go_num, by rw [al_at]; exact rowAt_step z n k hlt ▸ (hown.stored k (.int .u8 (al (z k)))).1, hbel.setCell (Nat.le_refl _) _⟩
      case measure => simp [intOf]; omega
    · go_wp2
      go_ret
      have e : k = n := by omega
      subst e
      exact ⟨rfl, by rw [← rowAt_full]; exact hown, hbel⟩

set_option maxRecDepth 100000 in
set_option maxHeartbeats 1000000 in
theorem build_zero (a : Option Addr) (cap : Nat) (z : Nat → Int) (w : World) : Calls Yba.prog 8 #[.slice a 0 cap] w (BuildPost z 0 w) := by
  obtain ⟨i0, hi, hz0, hz1, hz2⟩ := info_parts Yba.info5
  go_enter Yba.func8, Yba.ntmps8
  go_wp2_with (at_make; refine wpList_make_full _ rfl _ _ 23 rfl w.heap.size 5 i0 (.int .u8 0) 1 Yba.underlying23 hi hz0 hz1 _ _ _ _ 0 rfl rfl rfl rfl ?b2 ?b3 (Nat.le_refl _) ?_)
  case b2 => omega
  case b3 => exact Nat.zero_le _
  intro w0 hown0 hgrow0
  go_wp2
  refine wp_loop_rounds 1 ?_
  rw [rounds_succ]
  go_wp2
  go_ret
  exact ⟨rfl, by simpa [toList_madeCells_one, built] using hown0, (Below.refl _ _).grown hgrow0 (Nat.le_refl _) (fun k h => by cases h)⟩

/-- bytes z 0 .. z (n-1) lie at a -/
def Src (w : World) (a : Option Addr) (n : Nat) (z : Nat → Int) : Prop :=
  n = 0 ∨ ∃ b off, a = some ⟨b, off, none⟩ ∧ b < w.heap.size ∧ (∀ i, i < n → 0 ≤ z i ∧ z i ≤ 255) ∧ ∀ i, i < n → w.cell? ⟨b, off + i, none⟩ = some (.int .u8 (z i))

theorem Src.below {w w' : World} {a : Option Addr} {n : Nat} {z : Nat → Int} (h : Src w a n z) (hb : Below w.heap.size w w') : Src w' a n z := by
  rcases h with h | ⟨b, off, ha, hlt, hz, hc⟩
  · exact Or.inl h
  · exact Or.inr ⟨b, off, ha, Nat.lt_of_lt_of_le hlt hb.size, hz, fun i hi => (hb.cell (by exact hlt)).trans (hc i hi)⟩

theorem build_any (a : Option Addr) (n cap : Nat) (z : Nat → Int) (w : World) (hn : n ≤ 1000000) (h : Src w a n z) :
    Calls Yba.prog 8 #[.slice a n cap] w (BuildPost z n w) := by
  rcases h with rfl | ⟨b, off, rfl, hlt, hz, hc⟩
  · exact build_zero a cap z w
  · exact build_some b off n cap z w hn hz hlt hc

end Go.Proofs.Ybulkbprc
