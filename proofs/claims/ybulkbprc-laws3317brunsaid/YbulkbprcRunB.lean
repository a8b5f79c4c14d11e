/-
  runEnd: its contract.
-/
import Derived.Test.YbulkbprcRunA
import Derived.WalkSpells
import Derived.Test.YbulkbprcCls
namespace Go.Proofs.Ybulkbprc
open Go.RowKit
set_option linter.unusedVariables false

/-- The chart as the law lays it: the recognizer at br, its chart at bc, the parser at bp, the nonterminals at bn, the slots at bs, the n waits at bw. -/
structure Ch (w : World) (br bc bp bn bs bw n s : Nat) (kd rb sd : Bool) (ex : Nat → Int) (ph : Nat → Bool) (ow nx : Nat → Nat) (og : Nat → Int) : Prop where
  r1 : w.cell? ⟨br, 1, none⟩ = some (.pointer (some ⟨bc, 0, none⟩))
  r11 : w.cell? ⟨br, 14, none⟩ = some (.bool kd)
  r26 : w.cell? ⟨br, 29, none⟩ = some (.pointer none)
  r50 : w.cell? ⟨br, 71, none⟩ = some (.bool rb)
  c0 : w.cell? ⟨bc, 0, none⟩ = some (.pointer (some ⟨bp, 0, none⟩))
  c2 : w.cell? ⟨bc, 2, none⟩ = some (.int .i32 s)
  c14 : w.cell? ⟨bc, 14, none⟩ = some (.slice (some ⟨bw, 0, none⟩) n n)
  c24 : w.cell? ⟨bc, 24, none⟩ = some (.bool sd)
  p1 : w.cell? ⟨bp, 1, none⟩ = some (.slice (some ⟨bn, 0, none⟩) 3 3)
  p2 : w.cell? ⟨bp, 2, none⟩ = some (.slice (some ⟨bs, 0, none⟩) 4 4)
  nex : ∀ i, i < 3 → w.cell? ⟨bn, i * 20 + 7, none⟩ = some (.int .i32 (ex i))
  nph : ∀ i, i < 3 → w.cell? ⟨bn, i * 20 + 18, none⟩ = some (.bool (ph i))
  sow : ∀ i, i < 4 → w.cell? ⟨bs, i * 10 + 5, none⟩ = some (.int .i32 (ow i))
  wnx : ∀ i, i < n → w.cell? ⟨bw, i * 3, none⟩ = some (.int .i32 (nx i))
  wog : ∀ i, i < n → w.cell? ⟨bw, i * 3 + 1, none⟩ = some (.int .i32 (og i))
  wit : ∀ i, i < n → w.cell? ⟨bw, i * 3 + 2, none⟩ = some (.int .i32 i)
  owl : ∀ i, ow i < 3
  nxl : ∀ i, nx i < 4
  sl : s < 3

theorem Ch.below {w w' : World} {br bc bp bn bs bw n s : Nat} {kd rb sd : Bool} {ex : Nat → Int} {ph : Nat → Bool} {ow nx : Nat → Nat} {og : Nat → Int} (h : Ch w br bc bp bn bs bw n s kd rb sd ex ph ow nx og) (hb : Below w.heap.size w w') :
    Ch w' br bc bp bn bs bw n s kd rb sd ex ph ow nx og where
  r1 := cell_later hb h.r1
  r11 := cell_later hb h.r11
  r26 := cell_later hb h.r26
  r50 := cell_later hb h.r50
  c0 := cell_later hb h.c0
  c2 := cell_later hb h.c2
  c14 := cell_later hb h.c14
  c24 := cell_later hb h.c24
  p1 := cell_later hb h.p1
  p2 := cell_later hb h.p2
  nex := fun i hi => cell_later hb (h.nex i hi)
  nph := fun i hi => cell_later hb (h.nph i hi)
  sow := fun i hi => cell_later hb (h.sow i hi)
  wnx := fun i hi => cell_later hb (h.wnx i hi)
  wog := fun i hi => cell_later hb (h.wog i hi)
  wit := fun i hi => cell_later hb (h.wit i hi)
  owl := h.owl
  nxl := h.nxl
  sl := h.sl

theorem may_cl {X : World} {br bc bp bn bs bw n s : Nat} {kd rb sd : Bool} {ex : Nat → Int} {ph : Nat → Bool} {ow nx : Nat → Nat} {og : Nat → Int} (h : Ch X br bc bp bn bs bw n s kd rb sd ex ph ow nx og) {m : Bool} (hm : mbB kd rb sd (ph s) = m) (x : Cl X) :
    Calls Yba.prog 12 #[.pointer (some ⟨br, 0, none⟩)] x.v fun e w' => e = .returned (.bool m) ∧ ∃ y : Cl X, w' = y.v := by
  refine (may_any br bc bp bn s kd rb sd (ph s) x.v h.sl (x.cell h.r1) (x.cell h.r11) (x.cell h.r26) (x.cell h.r50) (x.cell h.c0) (x.cell h.c2) (x.cell h.c24) (x.cell h.p1) (x.cell (h.nph s h.sl))).mono ?_
  rintro e w' ⟨rfl, q, rfl⟩
  exact ⟨by rw [hm], cl_mk x (below_drewN (Below.refl _ _) q)⟩

theorem single_cl {X : World} {nx og it ow s : Int} {bo bv bc : Nat} (ho : X.cell? ⟨bo, 0, none⟩ = some (.int .i32 ow)) (hv : X.cell? ⟨bv, 0, none⟩ = some (.pointer (some ⟨bc, 0, none⟩))) (hc : X.cell? ⟨bc, 2, none⟩ = some (.int .i32 s))
    {m : Bool} (hm : sgB og ow s = m) (x : Cl X) :
    Calls Yba.prog 11 #[.agg #[.int .i32 nx, .int .i32 og, .int .i32 it], .pointer (some ⟨bo, 0, none⟩), .pointer (some ⟨bv, 0, none⟩)] x.v fun e w' => e = .returned (.bool m) ∧ ∃ y : Cl X, w' = y.v := by
  refine (single_any nx og it ow s bo bv bc x.v (x.cell ho) (x.cell hv) (x.cell hc)).mono ?_
  rintro e w' ⟨rfl, q, rfl⟩
  exact ⟨by rw [hm], cl_mk x (below_drewN ((Below.refl _ _).alloc x.h.size _) q)⟩

/-- may the run that begins at k be of one wait alone? -/
def oneB (kd rb sd : Bool) (ex : Nat → Int) (ph : Nat → Bool) (ow nx : Nat → Nat) (og : Nat → Int) (s k : Nat) : Bool :=
  !(mbB kd rb sd (ph s)) || decide (0 ≤ ex (ow (nx k))) || sgB (og k) (ow (nx k)) s

/-- does wait j go on the run that begins at k? -/
def goB (ow nx : Nat → Nat) (og : Nat → Int) (s k j : Nat) : Bool := (nx j == nx k) && !(sgB (og j) (ow (nx k)) s)

/-- what runEnd answers -/
def RunEnd (kd rb sd : Bool) (ex : Nat → Int) (ph : Nat → Bool) (ow nx : Nat → Nat) (og : Nat → Int) (s k to r : Nat) : Prop :=
  (oneB kd rb sd ex ph ow nx og s k = true ∧ r = k + 1) ∨
  (oneB kd rb sd ex ph ow nx og s k = false ∧ k + 1 ≤ r ∧ (r ≤ to ∨ r = k + 1) ∧ (∀ j, k + 1 ≤ j → j < r → goB ow nx og s k j = true) ∧ (r < to → goB ow nx og s k r = false))

set_option maxRecDepth 100000 in
set_option maxHeartbeats 4000000 in
theorem runend_any (br bc bp bn bs bw n s k to : Nat) (kd rb sd : Bool) (ex : Nat → Int) (ph : Nat → Bool) (ow nx : Nat → Nat) (og : Nat → Int) (w : World) (hn : n ≤ 1024) (hk : k < n) (hto : to ≤ n)
    (hch : Ch w br bc bp bn bs bw n s kd rb sd ex ph ow nx og) :
    Calls Yba.prog 6 #[.pointer (some ⟨br, 0, none⟩), .int .i32 k, .int .i32 to] w fun e w' => ∃ r : Nat, RunEnd kd rb sd ex ph ow nx og s k to r ∧ e = .returned (.int .i32 r) ∧ Below w.heap.size w w' := by
  have HCH : Hid (Ch w br bc bp bn bs bw n s kd rb sd ex ph ow nx og) := hch
  have h1 := hch.r1
  have h2 := hch.c14
  have k0 := hch.wnx k hk
  have k1 := hch.wog k hk
  have k2 := hch.wit k hk
  have h3 := hch.c0
  have h4 := hch.p2
  have h5 := hch.sow (nx k) (hch.nxl k)
  have h6 := hch.nxl k
  have b1 : bc < w.heap.size := World.block_lt_of_cell? w _ h2
  have b2 : bw < w.heap.size := World.block_lt_of_cell? w _ k0
  have b3 : bp < w.heap.size := World.block_lt_of_cell? w _ h4
  have b4 : bs < w.heap.size := World.block_lt_of_cell? w _ h5
  clear hch
  go_enter Yba.func6, Yba.ntmps6
  go_wp2
  obtain ⟨W, hW⟩ : ∃ W, W = (w.alloc (.cells #[.pointer (some ⟨bc, 0, none⟩)] 49)).alloc (.cells #[.int .i32 (nx k), .int .i32 (og k), .int .i32 k] 44) := ⟨_, rfl⟩
  have hbW : Below w.heap.size w W := by rw [hW]; exact ((Below.refl _ _).alloc (Nat.le_refl _) _).alloc (by simp) _
  have hsW : w.heap.size + 1 < W.heap.size := by rw [hW]; simp
  have g1 : W.cell? ⟨w.heap.size, 0, none⟩ = some (.pointer (some ⟨bc, 0, none⟩)) := by rw [hW]; simp
  have g2 : W.cell? ⟨w.heap.size + 1, 0, none⟩ = some (.int .i32 (nx k)) := by rw [hW]; simp
  have g2' : W.cell? ⟨w.heap.size + 1, 1, none⟩ = some (.int .i32 (og k)) := by rw [hW]; simp
  have g2'' : W.cell? ⟨w.heap.size + 1, 2, none⟩ = some (.int .i32 k) := by rw [hW]; simp
  rw [← hW]
  clear hW
  have g3 : W.cell? ⟨bc, 0, none⟩ = some (.pointer (some ⟨bp, 0, none⟩)) := cell_later hbW h3
  have g4 : W.cell? ⟨bp, 2, none⟩ = some (.slice (some ⟨bs, 0, none⟩) 4 4) := cell_later hbW h4
  have g5 : W.cell? ⟨bs, nx k * 10 + 5, none⟩ = some (.int .i32 (ow (nx k))) := cell_later hbW h5
  have b0' : w.heap.size < W.heap.size := by omega
  have b1' : bc < W.heap.size := by omega
  have b3' : bp < W.heap.size := by omega
  have b4' : bs < W.heap.size := by omega
  have h6' : ((nx k : Nat) : Int) < 4 := by omega
  clear h1 h2 h3 h4 h5 k0 k1 k2 b1 b2 b3 b4
  go_region
  obtain ⟨X, hX⟩ : ∃ X, X = (W.alloc (.cells #[.int .i32 (ow (nx k))] 21)).drew := ⟨_, rfl⟩
  have hbX : Below W.heap.size W X := by rw [hX]; exact ((Below.refl _ _).alloc (Nat.le_refl _) _).drew
  have x0 : X.cell? ⟨W.heap.size, 0, none⟩ = some (.int .i32 (ow (nx k))) := by rw [hX]; simp
  have hbwX : Below w.heap.size w X := hbW.trans (hbX.mono (by omega))
  rw [← hX]
  clear hX
  have x1 := cell_later hbX g1
  have x2 := cell_later hbX g2
  have x2' := cell_later hbX g2'
  have x2'' := cell_later hbX g2''
  have hchX := HCH.out.below hbwX
  have HX : Hid (Ch X br bc bp bn bs bw n s kd rb sd ex ph ow nx og) := hchX
  clear g1 g2 g2' g2'' g3 g4 g5 hchX
  go_wp2
  have hne : Nonempty (Cl X) := ⟨⟨X, Below.refl _ _⟩⟩
  cases hmb : mbB kd rb sd (ph s)
  · refine wp_region_cls (W := X) (by kernel_rfl) (by kernel_rfl) (Below.refl _ _) ?_
    repeat (go_big_quiet_step ((go_at_call 12; exact may_cl HX.out hmb _)))
    refine wpQuiet_nil ?_
    intro wn hwn
    obtain ⟨x, rfl⟩ := hwn
    go_wp2
    go_ret
    exact ⟨k + 1, Or.inl ⟨by simp [oneB, hmb], rfl⟩, by simp, hbwX.trans (x.h.mono hbwX.size)⟩
  · have f1 := fun x : Cl X => x.cell x1
    have f2 := fun x : Cl X => x.cell HX.out.c0
    have f3 := fun x : Cl X => x.cell HX.out.p1
    have f4 := fun x : Cl X => x.cell x0
    have f5 := fun x : Cl X => x.cell (HX.out.nex (ow (nx k)) (HX.out.owl _))
    have e0 := fun x : Cl X => x.cell x2
    have e1 := fun x : Cl X => x.cell x2'
    have e2 := fun x : Cl X => x.cell x2''
    have hol : ((ow (nx k) : Nat) : Int) < 3 := by have := HX.out.owl (nx k); omega
    cases hex : decide (0 ≤ ex (ow (nx k)))
    · cases hsg : sgB (og k) (ow (nx k)) s
      · have HONE : Hid (oneB kd rb sd ex ph ow nx og s k = false) := by simp [Hid, oneB, hmb, hex, hsg]
        refine wp_region_cls (W := X) (by kernel_rfl) (by kernel_rfl) (Below.refl _ _) ?_
        repeat (go_big_quiet_step ((first | (go_at_call 12; exact may_cl HX.out hmb _) | (go_at_call 11; exact single_cl x0 x1 HX.out.c2 hsg _))))
        refine wpQuiet_nil ?_
        intro wn hwn
        obtain ⟨x, rfl⟩ := hwn
        go_wp2
        clear hsg hex hmb f2 f3 f4 f5 e1 e2
        have f6 := fun x : Cl X => x.cell HX.out.c14
        go_loopw [11] (fun v wr => ∃ j : Nat, k + 1 ≤ j ∧ (j ≤ to ∨ j = k + 1) ∧ v = .int .i32 j ∧ Hid (∀ i, k + 1 ≤ i → i < j → goB ow nx og s k i = true) ∧ Below X.heap.size X wr) (fun v _ => to - (intOf v).toNat)
        case atStart => exact ⟨k + 1, Nat.le_refl _, Or.inr rfl, by go_num, fun i h1 h2 => by omega, x.h⟩
        case round =>
          obtain ⟨j, hj1, hj2, rfl, hgo, hbr⟩ := hrel
          by_cases hjt : j < to
          · have hjt' : decide ((j : Int) < (to : Int)) = true := by simp; omega
            have i0 := fun x : Cl X => x.cell (HX.out.wnx j (by omega))
            have i1 := fun x : Cl X => x.cell (HX.out.wog j (by omega))
            have i2 := fun x : Cl X => x.cell (HX.out.wit j (by omega))
            cases hnx : ((nx j : Int) == (nx k : Int))
            · have STOP : Hid (goB ow nx og s k j = false) := by
                have : (nx j == nx k) = false := by simp at hnx ⊢; omega
                simp [Hid, goB, this]
              go_wp2_with fail
              refine wp_region_cls (W := X) (by kernel_rfl) (by kernel_rfl) hbr ?_
              repeat (go_big_quiet_step ((first | (go_at_call 12; exact may_cl HX.out hmb _) | (go_at_call 11; exact single_cl x0 x1 HX.out.c2 hsg _))))
              refine wpQuiet_nil ?_
              intro wn hwn
              obtain ⟨y, rfl⟩ := hwn
              go_wp2
              go_ret
              exact ⟨j, Or.inr ⟨HONE.out, hj1, hj2, hgo.out, fun _ => STOP.out⟩, rfl, hbwX.trans (y.h.mono hbwX.size)⟩
            · have hnx' : (nx j == nx k) = true := by simp at hnx ⊢; omega
              cases hsg : sgB (og j) (ow (nx k)) s
              · have ST : Hid (∀ i, k + 1 ≤ i → i < j + 1 → goB ow nx og s k i = true) := fun i h1 h2 => by
                  by_cases e : i = j
                  · rw [e]; simp [goB, hnx', hsg]
                  · exact hgo.out i h1 (by omega)
                clear hnx'
                go_wp2_with fail
                refine wp_region_cls (W := X) (by kernel_rfl) (by kernel_rfl) hbr ?_
                repeat (go_big_quiet_step ((first | (go_at_call 12; exact may_cl HX.out hmb _) | (go_at_call 11; exact single_cl x0 x1 HX.out.c2 hsg _))))
                refine wpQuiet_nil ?_
                intro wn hwn
                obtain ⟨y, rfl⟩ := hwn
                go_wp2
                go_roundw
                case rel => exact ⟨j + 1, by omega, by omega, by go_num, ST, y.h⟩
                case measure => simp [intOf]; omega
              · have STOP : Hid (goB ow nx og s k j = false) := by simp [Hid, goB, hsg]
                clear hnx'
                go_wp2_with fail
                refine wp_region_cls (W := X) (by kernel_rfl) (by kernel_rfl) hbr ?_
                repeat (go_big_quiet_step ((first | (go_at_call 12; exact may_cl HX.out hmb _) | (go_at_call 11; exact single_cl x0 x1 HX.out.c2 hsg _))))
                refine wpQuiet_nil ?_
                intro wn hwn
                obtain ⟨y, rfl⟩ := hwn
                go_wp2
                go_ret
                exact ⟨j, Or.inr ⟨HONE.out, hj1, hj2, hgo.out, fun _ => STOP.out⟩, rfl, hbwX.trans (y.h.mono hbwX.size)⟩
          · have hjt' : decide ((j : Int) < (to : Int)) = false := by simp; omega
            go_wp2_with fail
            refine wp_region_cls (W := X) (by kernel_rfl) (by kernel_rfl) hbr ?_
            repeat (go_big_quiet_step (fail))
            refine wpQuiet_nil ?_
            intro wn hwn
            obtain ⟨y, rfl⟩ := hwn
            go_wp2
            go_ret
            exact ⟨j, Or.inr ⟨HONE.out, hj1, hj2, hgo.out, fun h => absurd h hjt⟩, rfl, hbwX.trans (y.h.mono hbwX.size)⟩
      · have HONE : Hid (oneB kd rb sd ex ph ow nx og s k = true) := by simp [Hid, oneB, hmb, hex, hsg]
        refine wp_region_cls (W := X) (by kernel_rfl) (by kernel_rfl) (Below.refl _ _) ?_
        repeat (go_big_quiet_step ((first | (go_at_call 12; exact may_cl HX.out hmb _) | (go_at_call 11; exact single_cl x0 x1 HX.out.c2 hsg _))))
        refine wpQuiet_nil ?_
        intro wn hwn
        obtain ⟨x, rfl⟩ := hwn
        go_wp2
        go_ret
        exact ⟨k + 1, Or.inl ⟨HONE.out, rfl⟩, by simp, hbwX.trans (x.h.mono hbwX.size)⟩
    · have HONE : Hid (oneB kd rb sd ex ph ow nx og s k = true) := by simp [Hid, oneB, hmb, hex]
      refine wp_region_cls (W := X) (by kernel_rfl) (by kernel_rfl) (Below.refl _ _) ?_
      repeat (go_big_quiet_step ((go_at_call 12; exact may_cl HX.out hmb _)))
      refine wpQuiet_nil ?_
      intro wn hwn
      obtain ⟨x, rfl⟩ := hwn
      go_wp2
      go_ret
      exact ⟨k + 1, Or.inl ⟨HONE.out, rfl⟩, by simp, hbwX.trans (x.h.mono hbwX.size)⟩

end Go.Proofs.Ybulkbprc
