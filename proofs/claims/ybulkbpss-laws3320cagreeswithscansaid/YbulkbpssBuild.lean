/-
  zzs3320cbuild: its contract.
-/
import Derived.Test.YbulkbpssFind
import Derived.Deep.RegionLaw
import Derived.BigRegion
import Derived.Deep.DeepCutAuto
namespace Go.Proofs.Ybulkbpss
open Go.RowKit
set_option linter.unusedVariables false

theorem Yba.info38 : (Yba.prog.info? 38).map (fun i => (i.zero, i.size, i.bytes)) = some (some (.agg #[.int .u64 0, .int .u64 0, .int .i32 0, .int .u32 0, .int .i32 0, .int .u16 0, .int .u8 0]), 7, 32) := by kernel_rfl
theorem Yba.info21 : (Yba.prog.info? 21).map (fun i => (i.zero, i.size, i.bytes)) = some (some (.int .i32 0), 1, 4) := by kernel_rfl

/-- append within the capacity of a row of the call's own, as one step of a region that draws -/
theorem step_append_own {P : Program} {ops : Array Oper} {o : Oper} {a : Act} {w : World} {K : Act → World → Prop} {Q : Exit → Act → World → Prop} {E : Prop}
    (hg : o.guard = none) (s x : Operand) (t : TypeId) (hop : o.op = Op.call { callee := Callee.builtin Builtin.append, args := #[s, x], argTypes := #[t, t] })
    (base : Nat) (e : TypeId) (i : TypeInfo) (size : Nat) (h1 : P.underlying t = some (.slice e)) (h2 : P.info? e = some i) (h4 : i.size = size)
    (g k cap : Nat) (xs : List Value) (hs : a.eval s = .slice (some ⟨g, 0, none⟩) k cap) (hown : w.ownsRow base e size (.slice (some ⟨g, 0, none⟩) k cap) k xs) (ad : Addr) (m c : Nat) (news : List Value) (hx : a.eval x = .slice (some ad) m c) (hn : news.length = m * size)
    (hc : ∀ j u, news[j]? = some u → w.cell? (ad.add j) = some u) (h1c : ∀ u ∈ news, u.oneCell' = true) (b1 : k + m ≤ cap)
    (hK : ∀ w', w'.ownsRow base e size (.slice (some ⟨g, 0, none⟩) (k + m) cap) (k + m) (xs ++ news) → w.grownBy w' (some g) → K (a.put o.dst (.slice (some ⟨g, 0, none⟩) (k + m) cap)) w') :
    if Region.wanted o (yielded ops a.tmps) = true then Oper.wp P o a w K Q else E := by
  have hw : Region.wanted o (yielded ops a.tmps) = true := by simp [Region.wanted, hg]
  rw [if_pos hw]
  obtain ⟨w', hrun, r1, r2⟩ := run_append_fits (P := P) w base t o.type e i size h1 h2 h4 g k cap xs hown ad m c news hn hc h1c b1
  unfold Oper.wp
  simp [execOp, hop, resolve, invoke, builtin, hs, hx, hrun, Result.andThen]
  exact hK _ r1 r2

theorem new_cells (w : World) (cs : List Value) (t : TypeId) : ∀ j u, cs[j]? = some u → (w.alloc (.cells cs.toArray t)).cell? ((⟨w.heap.size, 0, none⟩ : Addr).add j) = some u := by
  intro j u hu
  have hadd : (⟨w.heap.size, 0, none⟩ : Addr).add j = ⟨w.heap.size, j, none⟩ := by unfold Addr.add; split <;> simp_all
  rw [hadd, World.cell?_alloc_at _ _ _ _ rfl]
  simpa using hu

/-- Cells f 0 .. f (n-1) lie at a. -/
def Row1 (w : World) (a : Option Addr) (n : Nat) (f : Nat → Value) : Prop :=
  n = 0 ∨ ∃ b off, a = some ⟨b, off, none⟩ ∧ b < w.heap.size ∧ ∀ i, i < n → w.cell? ⟨b, off + i, none⟩ = some (f i)

/-- the entries' row: m entries of room for k -/
def Ents (w wr : World) (k m : Nat) (em eh pg : Nat → Int) : Prop :=
  ∃ xs, wr.ownsRow w.heap.size 38 7 (.slice (some ⟨w.heap.size, 0, none⟩) m k) m xs ∧ (∀ e, e < m → xs[e * 7]? = some (.int .u64 (eh e)) ∧ xs[e * 7 + 3]? = some (.int .u32 (pg e)) ∧ xs[e * 7 + 4]? = some (.int .i32 (em e))) ∧ Below w.heap.size w wr

def setAt (f : Nat → Int) (m : Nat) (v : Int) : Nat → Int := fun e => if e = m then v else f e
theorem setAt_same (f : Nat → Int) (m : Nat) (v : Int) : setAt f m v m = v := by simp [setAt]
theorem setAt_other {f : Nat → Int} {m e : Nat} {v : Int} (h : e ≠ m) : setAt f m v e = f e := by simp [setAt, h]

theorem Ents.push {w wr w' : World} {k m : Nat} {em eh pg : Nat → Int} {xs : List Value} {a b c : Int} (h : ∀ e, e < m → xs[e * 7]? = some (.int .u64 (eh e)) ∧ xs[e * 7 + 3]? = some (.int .u32 (pg e)) ∧ xs[e * 7 + 4]? = some (.int .i32 (em e)))
    (hl : xs.length = m * 7) (hb : Below w.heap.size w wr) (hb' : Below w.heap.size w w')
    (hown : w'.ownsRow w.heap.size 38 7 (.slice (some ⟨w.heap.size, 0, none⟩) (m + 1) k) (m + 1) (xs ++ [.int .u64 b, .int .u64 0, .int .i32 0, .int .u32 c, .int .i32 a, .int .u16 0, .int .u8 0])) :
    Ents w w' k (m + 1) (setAt em m a) (setAt eh m b) (setAt pg m c) := by
  refine ⟨_, hown, fun e he => ?_, hb'⟩
  by_cases e1 : e = m
  · subst e1
    rw [setAt_same, setAt_same, setAt_same]
    refine ⟨?_, ?_, ?_⟩
    · rw [List.getElem?_append_right (by omega), hl]; simp
    · rw [List.getElem?_append_right (by omega), hl]; simp
    · rw [List.getElem?_append_right (by omega), hl]; simp
  · rw [setAt_other e1, setAt_other e1, setAt_other e1]
    obtain ⟨h1, h2, h3⟩ := h e (by omega)
    refine ⟨?_, ?_, ?_⟩
    · rw [List.getElem?_append_left (by omega)]; exact h1
    · rw [List.getElem?_append_left (by omega)]; exact h2
    · rw [List.getElem?_append_left (by omega)]; exact h3

theorem distinct_push {em eh : Nat → Int} {m : Nat} {a b : Int} (hd : Distinct em eh m) (hno : ∀ e, e < m → ¬ (em e = a ∧ eh e = b)) : Distinct (setAt em m a) (setAt eh m b) (m + 1) := by
  intro i j hi hj h1 h2
  by_cases ei : i = m
  · by_cases ej : j = m
    · omega
    · rw [ei, setAt_same, setAt_other ej] at h1
      rw [ei, setAt_same, setAt_other ej] at h2
      exact absurd ⟨h1.symm, h2.symm⟩ (hno j (by omega))
  · by_cases ej : j = m
    · rw [ej, setAt_same, setAt_other ei] at h1
      rw [ej, setAt_same, setAt_other ei] at h2
      exact absurd ⟨h1, h2⟩ (hno i (by omega))
    · rw [setAt_other ei, setAt_other ej] at h1
      rw [setAt_other ei, setAt_other ej] at h2
      exact hd i j (by omega) (by omega) h1 h2

theorem Ents.below {w wr : World} {k m : Nat} {em eh pg : Nat → Int} (h : Ents w wr k m em eh pg) : Below w.heap.size w wr := by
  obtain ⟨_, _, _, h⟩ := h
  exact h
theorem Ents.cells {w wr : World} {k m : Nat} {em eh pg : Nat → Int} (h : Ents w wr k m em eh pg) {e : Nat} (he : e < m) :
    wr.cell? ⟨w.heap.size, e * 7, none⟩ = some (.int .u64 (eh e)) ∧ wr.cell? ⟨w.heap.size, e * 7 + 3, none⟩ = some (.int .u32 (pg e)) ∧ wr.cell? ⟨w.heap.size, e * 7 + 4, none⟩ = some (.int .i32 (em e)) := by
  obtain ⟨xs, h1, h2, h3⟩ := h
  obtain ⟨a, b, c⟩ := h2 e he
  exact ⟨(h1.cellAt _ (by omega)).trans a, (h1.cellAt _ (by omega)).trans b, (h1.cellAt _ (by omega)).trans c⟩
theorem Ents.drewN {w wr : World} {k m : Nat} {em eh pg : Nat → Int} (h : Ents w wr k m em eh pg) (q : Nat) : Ents w (wr.drewN q) k m em eh pg := by
  obtain ⟨xs, h1, h2, h3⟩ := h
  exact ⟨xs, h1, h2, below_drewN h3 q⟩

/-- the index's row as it stands -/
def tabRow (T : Nat → Nat) (n : Nat) : List Value := (List.range n).map fun a => .int .i32 (T a)
theorem tabRow_zero (n : Nat) : tabRow (fun _ => 0) n = List.replicate n (.int .i32 0) := by
  apply List.ext_getElem
  · simp [tabRow]
  · intro i h1 h2; simp [tabRow]
theorem tabRow_upd (T : Nat → Nat) (n a v : Nat) : (tabRow T n).set a (.int .i32 v) = tabRow (upd T a v) n := by
  apply List.ext_getElem
  · simp [tabRow]
  · intro i h1 h2
    simp only [tabRow, List.getElem_set, List.getElem_map, List.getElem_range, upd]
    by_cases e : a = i
    · subst e; simp
    · have e' : ¬ i = a := fun h => e h.symm
      simp [e, e']
theorem tab_cell {w : World} {base bi n : Nat} {T : Nat → Nat} (h : w.ownsRow base 21 1 (.slice (some ⟨bi, 0, none⟩) n n) n (tabRow T n)) {a : Nat} (ha : a < n) : w.cell? ⟨bi, a, none⟩ = some (.int .i32 (T a)) := by
  rw [h.cellAt a (by omega)]; simp [tabRow, ha]

def BuildPost (w : World) (k : Nat) (e : Ending) (w' : World) : Prop :=
  ∃ (bs be bi m n cap : Nat) (em eh pg : Nat → Int) (T : Nat → Nat), m ≤ k ∧ e = .returned (.pointer (some ⟨bs, 0, none⟩)) ∧ SetAt w' bs be bi m n cap em eh pg T ∧ Below w.heap.size w w'

set_option maxRecDepth 100000 in
set_option maxHeartbeats 2000000 in
theorem build_any (a0 : Option Addr) (n0 c0 : Nat) (a1 : Option Addr) (n1 c1 k : Nat) (mk hs : Nat → Int) (w : World) (hk0 : k ≤ n0) (hk1 : k ≤ n1) (hkk : k = n0 ∨ k = n1) (hn0 : n0 ≤ 1024) (hn1 : n1 ≤ 1024)
    (h0 : Row1 w a0 n0 (fun i => .int .i32 (mk i))) (h1 : Row1 w a1 n1 (fun i => .int .u64 (hs i))) :
    Calls Yba.prog 5 #[.slice a0 n0 c0, .slice a1 n1 c1] w (BuildPost w k) := by
  obtain ⟨i38, hi38, hz38, hs38, hy38⟩ := info_parts Yba.info38
  obtain ⟨i21, hi21, hz21, hs21, hy21⟩ := info_parts Yba.info21
  have H0 : Hid (Row1 w a0 n0 (fun i => .int .i32 (mk i))) := h0
  have H1 : Hid (Row1 w a1 n1 (fun i => .int .u64 (hs i))) := h1
  clear h0 h1
  go_enter Yba.func5, Yba.ntmps5
  go_upto_region 1 with fail
  go_cut [5] from 14 to 18 (fun c wx => c = .int .i64 k ∧ wx = w)
  case first =>
    by_cases hle : n0 ≤ n1
    · obtain rfl : k = n0 := by omega
      go_wp2
      go_meet
      exact ⟨rfl, rfl⟩
    · obtain rfl : k = n1 := by omega
      go_wp2
      go_meet
      exact ⟨rfl, rfl⟩
  case rest =>
    obtain ⟨rfl, hwc⟩ := hcut
    subst hwc
    have hk : k ≤ 1024 := by omega
    clear hkk
    go_wp2_with (at_make; refine wpList_make_own _ rfl _ _ 33 rfl wc.heap.size 38 i38 _ 7 Yba.underlying33 hi38 hz38 hs38 _ _ _ k rfl rfl rfl ?b2 ?b3 (Nat.le_refl _) ?_)
    case b2 => rw [hy38]; omega
    case b3 => unfold maxLen; omega
    intro w0 hown0 hgrow0
    have hE0 : Ents wc w0 k 0 (fun _ => 0) (fun _ => 0) (fun _ => 0) := ⟨[], hown0, fun e he => by omega, (Below.refl _ _).grown hgrow0 (Nat.le_refl _) (fun k h => by cases h)⟩
    clear hown0 hgrow0
    go_wp2
    go_loopw [6, 7] (fun v u wr => ∃ (i m : Nat) (em eh pg : Nat → Int), i ≤ k ∧ m ≤ i ∧ u = .int .i64 i ∧ v = .slice (some ⟨wc.heap.size, 0, none⟩) m k ∧ Ents wc wr k m em eh pg ∧ Hid (Distinct em eh m)) (fun _ u _ => k - (intOf u).toNat)
    case atStart => exact ⟨0, 0, _, _, _, Nat.zero_le _, Nat.le_refl _, rfl, rfl, hE0, fun i j hi => by omega⟩
    case round =>
      clear hE0
      obtain ⟨i, m, em, eh, pg, hik, hmi, rfl, rfl, hE, hD⟩ := hrel
      by_cases hlt : i < k
      · rcases H0.out with e0 | ⟨b0, o0, rfl, hb0, hc0⟩
        · omega
        · rcases H1.out with e1 | ⟨b1, o1, rfl, hb1, hc1⟩
          · omega
          · have hgi : (i : Int) < (n0 : Int) := by omega
            have hgi1 : (i : Int) < (n1 : Int) := by omega
            obtain ⟨u1, hu1⟩ : ∃ u, u = wr := ⟨_, rfl⟩
            subst hu1
            have HE : Hid (Ents wc u1 k m em eh pg) := hE
            have r0 : u1.cell? ⟨b0, o0 + i, none⟩ = some (.int .i32 (mk i)) := (hE.below.cell (by exact hb0)).trans (hc0 i (by omega))
            have r1 : u1.cell? ⟨b1, o1 + i, none⟩ = some (.int .u64 (hs i)) := (hE.below.cell (by exact hb1)).trans (hc1 i (by omega))
            clear hE hc0 hc1
            go_wp2
            go_loopw [8, 9] (fun dv u wr => ∃ j : Nat, j ≤ m ∧ u = .int .i64 j ∧ dv = .bool false ∧ Hid (∀ e, e < j → ¬ (em e = mk i ∧ eh e = hs i)) ∧ ∃ q, wr = u1.drewN q) (fun _ u _ => m - (intOf u).toNat)
            case atStart => exact ⟨0, Nat.zero_le _, rfl, rfl, fun e he => by omega, 0, rfl⟩
            case round =>
              obtain ⟨j, hjm, rfl, rfl, hno, q, rfl⟩ := hrel
              by_cases hj : j < m
              · obtain ⟨c1, _, c3⟩ := HE.out.cells hj
                have hj' : (j : Int) < (m : Int) := by omega
                cases k1 : (em j == mk i)
                · have ST : Hid (∀ e, e < j + 1 → ¬ (em e = mk i ∧ eh e = hs i)) := fun e he => by
                    by_cases e1 : e = j
                    · rw [e1]; exact fun h => by simp [h.1] at k1
                    · exact hno.out e (by omega)
                  clear hno
                  go_wp2_with fail
                  go_quiet (fail)
                  go_wp2
                  go_roundw
                  case rel => exact ⟨j + 1, by omega, by go_num, rfl, ST, _, rfl⟩
                  case measure => simp [intOf]; omega
                · cases k2 : (eh j == hs i)
                  · have ST : Hid (∀ e, e < j + 1 → ¬ (em e = mk i ∧ eh e = hs i)) := fun e he => by
                      by_cases e1 : e = j
                      · rw [e1]; exact fun h => by simp [h.2] at k2
                      · exact hno.out e (by omega)
                    clear hno
                    go_wp2_with fail
                    go_quiet (fail)
                    go_wp2
                    go_roundw
                    case rel => exact ⟨j + 1, by omega, by go_num, rfl, ST, _, rfl⟩
                    case measure => simp [intOf]; omega
                  · clear hno
                    go_wp2_with fail
                    go_quiet (fail)
                    go_wp2
                    go_roundw
                    case rel => exact ⟨i + 1, m, em, eh, pg, by omega, by omega, by go_num, rfl, HE.out.drewN _, hD⟩
                    case measure => simp [intOf]; omega
              · have HNO : Hid (∀ e, e < m → ¬ (em e = mk i ∧ eh e = hs i)) := fun e he => hno.out e (by omega)
                clear hno
                obtain ⟨xs, hown, hxs, hbel⟩ := HE.out
                obtain ⟨u2, hu2⟩ : ∃ u, u = u1.drewN q := ⟨_, rfl⟩
                have hown2 : u2.ownsRow wc.heap.size 38 7 (.slice (some ⟨wc.heap.size, 0, none⟩) m k) m xs := by rw [hu2]; exact hown
                have hbel2 : Below wc.heap.size wc u2 := by rw [hu2]; exact below_drewN hbel q
                have s0 : u2.cell? ⟨b0, o0 + i, none⟩ = some (.int .i32 (mk i)) := by rw [hu2]; exact r0
                have s1 : u2.cell? ⟨b1, o1 + i, none⟩ = some (.int .u64 (hs i)) := by rw [hu2]; exact r1
                have hmk : m + 1 ≤ k := by omega
                have HXS : Hid (∀ e, e < m → xs[e * 7]? = some (.int .u64 (eh e)) ∧ xs[e * 7 + 3]? = some (.int .u32 (pg e)) ∧ xs[e * 7 + 4]? = some (.int .i32 (em e))) := hxs
                rw [← hu2]
                clear hown hbel hxs hu2 r0 r1 HE
                go_wp2_with fail
                have hnew := new_cells u2 [.int .u64 (hs i), .int .u64 0, .int .i32 0, .int .u32 (IntKind.u32.wrap i), .int .i32 (mk i), .int .u16 0, .int .u8 0] 38
                have hone : ∀ u ∈ [Value.int .u64 (hs i), .int .u64 0, .int .i32 0, .int .u32 (IntKind.u32.wrap i), .int .i32 (mk i), .int .u16 0, .int .u8 0], u.oneCell' = true := by intro u hu; simp at hu; rcases hu with rfl | rfl | rfl | rfl | rfl | rfl | rfl <;> rfl
                have HNEW := hnew
                have hsz2 : wc.heap.size ≤ u2.heap.size := hbel2.size
                go_region_law (refine step_append_own rfl _ _ 33 rfl wc.heap.size 38 i38 7 Yba.underlying33 hi38 hs38 wc.heap.size m k xs rfl (by exact (hown2.alloc _).drew) ⟨u2.heap.size, 0, none⟩ 1 1 [.int .u64 (hs i), .int .u64 0, .int .i32 0, .int .u32 (IntKind.u32.wrap i), .int .i32 (mk i), .int .u16 0, .int .u8 0] rfl rfl (by exact hnew) (by exact hone) hmk ?_; intro w3 hown3 hgrow3)
                all_goals
                  have hb3 : Below wc.heap.size wc w3 := ((hbel2.alloc hsz2 _).drew).grown hgrow3 (by show wc.heap.size ≤ (u2.alloc _).heap.size; simp; omega) (fun k h => by cases h; exact Nat.le_refl _)
                  have hE3 := Ents.push HXS.out hown2.1 hbel2 hb3 hown3
                  clear hnew HNEW hone hown3 hgrow3 hown2 hbel2 s0 s1
                  go_wp2
                  go_roundw
                  case rel => exact ⟨i + 1, m + 1, _, _, _, by omega, by omega, by go_num, rfl, hE3, distinct_push hD.out HNO.out⟩
                  case measure => simp [intOf]; omega
      · obtain ⟨u2, hu2⟩ : ∃ u, u = wr := ⟨_, rfl⟩
        subst hu2
        have HE : Hid (Ents wc u2 k m em eh pg) := hE
        have hu2s : wc.heap.size < u2.heap.size := by
          obtain ⟨xs, h1, _⟩ := hE
          exact (h1.lt _ rfl).2
        obtain ⟨n, hn⟩ : ∃ n : Nat, n = m + m / 2 + 1 := ⟨_, rfl⟩
        have hn' : (m : Int) + (m : Int) / 2 + 1 = (n : Int) := by omega
        have hmn : m < n := by omega
        have hnl : n ≤ 100000 := by omega
        clear hE H0 H1 hn
        go_wp2_with (at_make; refine wpList_make_full _ rfl _ _ 22 rfl u2.heap.size 21 i21 (.int .i32 0) 1 Yba.underlying22 hi21 hz21 hs21 _ _ _ _ n rfl rfl rfl rfl ?b2 ?b3 (Nat.le_refl _) ?_)
        case b2 => rw [hy21]; omega
        case b3 => unfold maxLen; omega
        intro w4 hown4 hgrow4
        have hT0 : w4.ownsRow u2.heap.size 21 1 (.slice (some ⟨u2.heap.size, 0, none⟩) n n) n (tabRow (fun _ => 0) n) := by rw [tabRow_zero]; simpa [toList_madeCells_one] using hown4
        have hb4 : Below u2.heap.size u2 w4 := (Below.refl _ _).grown hgrow4 (Nat.le_refl _) (fun k h => by cases h)
        clear hown4 hgrow4
        go_wp2
        clear hn'
        go_loopw [12] (fun v wr => ∃ (q : Nat) (T : Nat → Nat), q ≤ m ∧ v = .int .i64 q ∧ wr.ownsRow u2.heap.size 21 1 (.slice (some ⟨u2.heap.size, 0, none⟩) n n) n (tabRow T n) ∧ Hid (TI (fun e => slN (em e) (eh e) n) n T q) ∧ Below u2.heap.size u2 wr) (fun v _ => m - (intOf v).toNat)
        case atStart => exact ⟨0, _, Nat.zero_le _, rfl, hT0, TI.start (fun a _ => rfl), hb4⟩
        case round =>
          clear hT0 hb4
          obtain ⟨q, T, hq, rfl, hownT, hTI, hbT⟩ := hrel
          by_cases hqm : q < m
          · obtain ⟨c1, _, c3⟩ := HE.out.cells hqm
            have d1 := cell_later hbT c1
            have d3 := cell_later hbT c3
            clear c1 c3
            have hq' : (q : Int) < (m : Int) := by omega
            obtain ⟨s, hs⟩ : ∃ s, s = slN (em q) (eh q) n := ⟨_, rfl⟩
            have hsn : s < n := by rw [hs]; exact slN_lt _ _ _ (by omega)
            have CS := fun w => slot_any (em q) (eh q) n w (by omega) (by omega)
            rw [← hs] at CS
            have HCS : Hid (∀ w, Calls Yba.prog 7 #[.int .i32 (em q), .int .u64 (eh q), .int .i64 n] w fun e w' => e = .returned (.int .i64 s) ∧ w' = w) := CS
            have HSS : Hid (s = slN (em q) (eh q) n) := hs
            clear CS hs
            go_wp2_with fail
            go_quiet ((go_at_call 7; exact Calls.quiet_of_same (HCS.out _)))
            obtain ⟨u3, hu3⟩ : ∃ u, u = wr.drewN nq := ⟨_, rfl⟩
            have hown3 : u3.ownsRow u2.heap.size 21 1 (.slice (some ⟨u2.heap.size, 0, none⟩) n n) n (tabRow T n) := by rw [hu3]; exact hownT
            have hb3 : Below u2.heap.size u2 u3 := by rw [hu3]; exact below_drewN hbT nq
            rw [← hu3]
            clear hu3 hownT hbT d1 d3 HCS
            go_wp2
            go_loop [13] (fun v => ∃ j : Nat, j < n ∧ v = .int .i64 (pos s n j) ∧ Hid (∀ d, d < j → T (pos s n d) ≠ 0)) (fun v => n - dist s n (intOf v).toNat)
            case atStart => exact ⟨0, by omega, by rw [pos_zero hsn], fun d hd => by omega⟩
            case round =>
              obtain ⟨j, hj, rfl, hno⟩ := hrel
              obtain ⟨a, ha⟩ : ∃ a, a = pos s n j := ⟨_, rfl⟩
              have han : a < n := by rw [ha]; exact pos_lt hsn hj
              rw [← ha]
              have HA : Hid (a = pos s n j) := ha
              clear ha
              have hta := tab_cell hown3 han
              have hfa := hown3.frozenAt a
              rcases hT : T a with _ | e
              · rw [hT] at hta
                have FIN : Hid (TI (fun e => slN (em e) (eh e) n) n (upd T a (q + 1)) (q + 1)) := by
                  have hp := hTI.out.put (j := j) (by show slN (em q) (eh q) n < n; rw [← HSS.out]; exact hsn) (fun e _ => slN_lt _ _ _ (by omega)) hj (by show T (pos (slN (em q) (eh q) n) n j) = 0; rw [← HSS.out, ← HA.out]; exact hT)
                    (fun d hd => by show T (pos (slN (em q) (eh q) n) n d) ≠ 0; rw [← HSS.out]; exact hno.out d hd)
                  have e1 : pos (slN (em q) (eh q) n) n j = a := by rw [← HSS.out]; exact HA.out.symm
                  rw [e1] at hp
                  exact hp
                have hst := hown3.stored a (.int .i32 ((q + 1 : Nat) : Int))
                rw [tabRow_upd] at hst
                have HST : Hid ((u3.setCell ⟨u2.heap.size, a, none⟩ (.int .i32 ((q + 1 : Nat) : Int))).ownsRow u2.heap.size 21 1 (.slice (some ⟨u2.heap.size, 0, none⟩) n n) n (tabRow (upd T a (q + 1)) n)) := hst.1
                clear hno hT hst
                go_wp2
                go_roundw
                case rel => exact ⟨q + 1, _, by omega, by go_num, by have := HST.out; simpa using this, FIN, hb3.setCell (Nat.le_refl _) _⟩
                case measure => simp [intOf]; omega
              · rw [hT] at hta
                have FULL : Hid (∀ d, d < j + 1 → T (pos s n d) ≠ 0) := fun d hd => by
                  by_cases e1 : d = j
                  · rw [e1, ← HA.out, hT]; omega
                  · exact hno.out d (by omega)
                have hj1 : j + 1 < n := hTI.out.room (by omega) hsn hj FULL.out
                have HNX : Hid (∀ w, a < n → n ≤ 1000000 → Calls Yba.prog 8 #[.int .i64 a, .int .i64 n] w fun e w' => e = .returned (.int .i64 (pos s n (j + 1))) ∧ w' = w) := fun w h1 h2 => by
                  have := next_any a n w h1 h2
                  rw [HA.out, pos_next hsn hj1, ← HA.out] at this
                  exact this
                have he : ((e : Int) + 1 != 0) = true := by rw [bne_iff_ne]; omega
                clear hno hT
                go_wp2_with (go_at_call 8; refine (HNX.out _ han (by omega)).mono ?_; rintro e1 w1 ⟨rfl, hw1⟩; subst hw1)
                go_round
                case rel => exact ⟨j + 1, hj1, rfl, FULL⟩
                case measure => simp only [intOf, Int.toNat_natCast]; rw [HA.out, dist_pos hsn hj, dist_pos hsn hj1]; omega
          · obtain rfl : q = m := by omega
            have hmm := @run_makeMap Yba.prog
            have hbS : Below wc.heap.size wc wr := HE.out.below.trans (hbT.mono (by omega))
            have FIN : Hid (∀ e, e < q → wr.cell? ⟨wc.heap.size, e * 7, none⟩ = some (.int .u64 (eh e)) ∧ wr.cell? ⟨wc.heap.size, e * 7 + 3, none⟩ = some (.int .u32 (pg e)) ∧ wr.cell? ⟨wc.heap.size, e * 7 + 4, none⟩ = some (.int .i32 (em e))) := fun e he => by
              obtain ⟨x1, x2, x3⟩ := HE.out.cells he
              exact ⟨cell_later hbT x1, cell_later hbT x2, cell_later hbT x3⟩
            go_wp2
            go_ret
            have hb2 : ∀ o1 o2 : Obj, Below wr.heap.size wr ((wr.alloc o1).alloc o2) := fun o1 o2 => ((Below.refl _ _).alloc (Nat.le_refl _) _).alloc (by simp) _
            refine ⟨_, wc.heap.size, u2.heap.size, q, n, k, em, eh, pg, T, by omega, rfl, ⟨by simp, by simp, fun e he => cell_later (hb2 _ _) (FIN.out e he).1, fun e he => cell_later (hb2 _ _) (FIN.out e he).2.1, fun e he => cell_later (hb2 _ _) (FIN.out e he).2.2, fun a ha => cell_later (hb2 _ _) (tab_cell hownT ha), hTI.out, hmn, hnl, hD.out⟩, hbS.trans ((hb2 _ _).mono hbS.size)⟩

end Go.Proofs.Ybulkbpss
