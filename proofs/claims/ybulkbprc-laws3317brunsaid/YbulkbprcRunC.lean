/-
  LawS3317BRun: its walk.
-/
import Derived.Test.YbulkbprcRunB
import Derived.BigRegion
import Derived.Laws.CopyOwn
import Derived.Deep.DeepCutAuto
namespace Go.Proofs.Ybulkbprc
open Go.RowKit
set_option linter.unusedVariables false

theorem Yba.info34 : (Yba.prog.info? 34).map (fun i => (i.zero, i.size, i.bytes)) = some (some (.agg #[.string ⟨#[]⟩, .slice none 0 0, .bool false, .int .i32 0, .int .i64 0, .int .i64 0, .bool false, .int .i32 0, .int .i32 0, .slice none 0 0, .int .u64 0, .int .u64 0, .int .u64 0, .int .u64 0, .slice none 0 0, .bool false, .bool false, .bool false, .bool false, .bool false]), 20, 168) := by kernel_rfl
theorem Yba.info39 : (Yba.prog.info? 39).map (fun i => (i.zero, i.size, i.bytes)) = some (some (.agg #[.int .u8 0, .int .u8 0, .int .u8 0, .bool false, .int .i32 0, .int .i32 0, .int .i32 0, .int .i32 0, .bool false, .bool false]), 10, 24) := by kernel_rfl
theorem Yba.info44 : (Yba.prog.info? 44).map (fun i => (i.zero, i.size, i.bytes)) = some (some (.agg #[.int .i32 0, .int .i32 0, .int .i32 0]), 3, 12) := by kernel_rfl

/-- Cells f 0 .. f (n-1) lie at a. -/
def Row1 (w : World) (a : Option Addr) (n : Nat) (f : Nat → Value) : Prop :=
  n = 0 ∨ ∃ b off, a = some ⟨b, off, none⟩ ∧ b < w.heap.size ∧ ∀ i, i < n → w.cell? ⟨b, off + i, none⟩ = some (f i)

/-- the nonterminals' row behind k rounds -/
def NtsAt (xs : List Value) : Prop :=
  (∀ i, i < 3 → ∃ e : Int, xs[i * 20 + 7]? = some (.int .i32 e)) ∧ (∀ i, i < 3 → ∃ p : Bool, xs[i * 20 + 18]? = some (.bool p))

theorem nts_start : NtsAt (madeCells (Value.agg #[.string ⟨#[]⟩, .slice none 0 0, .bool false, .int .i32 0, .int .i64 0, .int .i64 0, .bool false, .int .i32 0, .int .i32 0, .slice none 0 0, .int .u64 0, .int .u64 0, .int .u64 0, .int .u64 0, .slice none 0 0, .bool false, .bool false, .bool false, .bool false, .bool false]).cells (3 * 20)).toList :=
  ⟨fun i hi => match i, hi with
    | 0, _ => ⟨0, by kernel_rfl⟩
    | 1, _ => ⟨0, by kernel_rfl⟩
    | 2, _ => ⟨0, by kernel_rfl⟩, fun i hi => match i, hi with
    | 0, _ => ⟨false, by kernel_rfl⟩
    | 1, _ => ⟨false, by kernel_rfl⟩
    | 2, _ => ⟨false, by kernel_rfl⟩⟩

theorem nts_set7 {xs : List Value} {i : Nat} {e : Int} (h : NtsAt xs) (hl : xs.length = 60) (hi : i < 3) : NtsAt (xs.set (i * 20 + 7) (.int .i32 e)) := by
  refine ⟨fun j hj => ?_, fun j hj => ?_⟩
  · by_cases ej : j = i
    · subst ej; exact ⟨e, by rw [List.getElem?_set]; simp [hl]; try omega⟩
    · obtain ⟨e', he'⟩ := h.1 j hj
      exact ⟨e', by rw [List.getElem?_set]; rw [if_neg (by omega)]; exact he'⟩
  · obtain ⟨p, hp⟩ := h.2 j hj
    exact ⟨p, by rw [List.getElem?_set, if_neg (by omega)]; exact hp⟩
theorem nts_set18 {xs : List Value} {i : Nat} {p : Bool} (h : NtsAt xs) (hl : xs.length = 60) (hi : i < 3) : NtsAt (xs.set (i * 20 + 18) (.bool p)) := by
  refine ⟨fun j hj => ?_, fun j hj => ?_⟩
  · obtain ⟨p, hp⟩ := h.1 j hj
    exact ⟨p, by rw [List.getElem?_set, if_neg (by omega)]; exact hp⟩
  · by_cases ej : j = i
    · subst ej; exact ⟨p, by rw [List.getElem?_set]; simp [hl]; omega⟩
    · obtain ⟨e', he'⟩ := h.2 j hj
      exact ⟨e', by rw [List.getElem?_set]; rw [if_neg (by omega)]; exact he'⟩

/-- the nonterminals' row is owned, all else is as it was -/
def Nts (w wr : World) : Prop := ∃ xs, wr.ownsRow w.heap.size 34 20 (.slice (some ⟨w.heap.size, 0, none⟩) 3 3) 3 xs ∧ NtsAt xs ∧ Below w.heap.size w wr

theorem Nts.set7 {w wr : World} (h : Nts w wr) {i : Nat} (hi : i < 3) (e : Int) : Nts w (wr.setCell ⟨w.heap.size, i * 20 + 7, none⟩ (.int .i32 e)) := by
  obtain ⟨xs, h1, h2, h3⟩ := h
  exact ⟨_, (h1.stored _ _).1, nts_set7 h2 h1.1 hi, h3.setCell (Nat.le_refl _) _⟩
theorem Nts.set18 {w wr : World} (h : Nts w wr) {i : Nat} (hi : i < 3) (e : Bool) : Nts w (wr.setCell ⟨w.heap.size, i * 20 + 18, none⟩ (.bool e)) := by
  obtain ⟨xs, h1, h2, h3⟩ := h
  exact ⟨_, (h1.stored _ _).1, nts_set18 h2 h1.1 hi, h3.setCell (Nat.le_refl _) _⟩

/-- the slots' row: every owner below 3 -/
def SlAt (ys : List Value) : Prop := ∀ i, i < 4 → ∃ o : Nat, o < 3 ∧ ys[i * 10 + 5]? = some (.int .i32 o)
theorem sl_start : SlAt (madeCells (Value.agg #[.int .u8 0, .int .u8 0, .int .u8 0, .bool false, .int .i32 0, .int .i32 0, .int .i32 0, .int .i32 0, .bool false, .bool false]).cells (4 * 10)).toList :=
  fun i hi => match i, hi with
    | 0, _ => ⟨0, by omega, by kernel_rfl⟩
    | 1, _ => ⟨0, by omega, by kernel_rfl⟩
    | 2, _ => ⟨0, by omega, by kernel_rfl⟩
    | 3, _ => ⟨0, by omega, by kernel_rfl⟩

/-- behind k rounds over the slots: the row at bs is owned, the variable at bv leads to it, all below bs is as in u -/
def Sls (u : World) (bs bv : Nat) (wr : World) : Prop :=
  ∃ ys, wr.ownsRow bs 39 10 (.slice (some ⟨bs, 0, none⟩) 4 4) 4 ys ∧ SlAt ys ∧ Below bs u wr ∧ wr.cell? ⟨bv, 0, none⟩ = some (.slice (some ⟨bs, 0, none⟩) 4 4)

theorem Sls.set {u wr : World} {bs bv i o : Nat} (h : Sls u bs bv wr) (hi : i < 4) (ho : o < 3) (hb : bs < bv) : Sls u bs bv (wr.setCell ⟨bs, i * 10 + 5, none⟩ (.int .i32 o)) := by
  obtain ⟨ys, h1, h2, h3, h4⟩ := h
  refine ⟨_, (h1.stored _ _).1, fun j hj => ?_, h3.setCell (Nat.le_refl _) _, ?_⟩
  · by_cases ej : j = i
    · subst ej; exact ⟨o, ho, by rw [List.getElem?_set]; simp [h1.1]; omega⟩
    · obtain ⟨q, hq, e⟩ := h2 j hj
      exact ⟨q, hq, by rw [List.getElem?_set, if_neg (by omega)]; exact e⟩
  · rw [World.cell?_setCell_other _ _ _ _ (by simp)]; exact h4
theorem Sls.setI {u wr : World} {bs bv i : Nat} {c : Int} (h : Sls u bs bv wr) (hi : i < 4) (h0 : 0 ≤ c) (hc : c < 3) (hb : bs < bv) : Sls u bs bv (wr.setCell ⟨bs, i * 10 + 5, none⟩ (.int .i32 c)) := by
  obtain ⟨o, rfl⟩ := Int.eq_ofNat_of_zero_le h0
  exact h.set hi (by omega) hb
theorem Nts.below {w wr : World} (h : Nts w wr) : Below w.heap.size w wr := by
  obtain ⟨_, _, _, h⟩ := h
  exact h
theorem Sls.drew {u wr : World} {bs bv : Nat} (h : Sls u bs bv wr) : Sls u bs bv wr.drew := by
  obtain ⟨ys, h1, h2, h3, h4⟩ := h
  exact ⟨ys, h1.drew, h2, h3.drew, h4⟩

/-- behind k rounds over the waits -/
def Wts (u : World) (bw n k : Nat) (zn zo : Nat → Int) (wr : World) : Prop :=
  ∃ xs, wr.ownsRow bw 44 3 (.slice (some ⟨bw, 0, none⟩) n n) n xs ∧ (∀ i, i < k → xs[i * 3]? = some (.int .i32 (zn i % 4)) ∧ xs[i * 3 + 1]? = some (.int .i32 (zo i)) ∧ xs[i * 3 + 2]? = some (.int .i32 i)) ∧ Below bw u wr

theorem Wts.drew {u wr : World} {bw n k : Nat} {zn zo : Nat → Int} (h : Wts u bw n k zn zo wr) : Wts u bw n k zn zo wr.drew := by
  obtain ⟨xs, h1, h2, h3⟩ := h
  exact ⟨xs, h1.drew, h2, h3.drew⟩

theorem Wts.at {u wr : World} {bw n k : Nat} {zn zo : Nat → Int} (h : Wts u bw n k zn zo wr) {j : Nat} (hj : j < n * 3) : ∃ v, wr.cell? ⟨bw, j, none⟩ = some v := by
  obtain ⟨xs, h1, h2, h3⟩ := h
  exact ⟨xs[j]'(by rw [h1.1]; exact hj), by rw [h1.cellAt j hj]; simp⟩
theorem Wts.frozen {u wr : World} {bw n k : Nat} {zn zo : Nat → Int} (h : Wts u bw n k zn zo wr) (j : Nat) : wr.frozen? ⟨bw, j, none⟩ = false := by
  obtain ⟨xs, h1, h2, h3⟩ := h
  exact h1.frozenAt j
theorem Wts.below {u wr : World} {bw n k : Nat} {zn zo : Nat → Int} (h : Wts u bw n k zn zo wr) : Below bw u wr := by
  obtain ⟨xs, h1, h2, h3⟩ := h
  exact h3

theorem Wts.put {u wr : World} {bw n k : Nat} {zn zo : Nat → Int} (h : Wts u bw n k zn zo wr) (hk : k < n) :
    Wts u bw n (k + 1) zn zo (((wr.setCell ⟨bw, k * 3, none⟩ (.int .i32 (zn k % 4))).setCell ⟨bw, k * 3 + 1, none⟩ (.int .i32 (zo k))).setCell ⟨bw, k * 3 + 2, none⟩ (.int .i32 k)) := by
  obtain ⟨xs, h1, h2, h3⟩ := h
  have hl : xs.length = n * 3 := h1.1
  refine ⟨_, (((h1.stored _ _).1.stored _ _).1.stored _ _).1, fun i hi => ?_, ((h3.setCell (Nat.le_refl _) _).setCell (Nat.le_refl _) _).setCell (Nat.le_refl _) _⟩
  simp only [List.getElem?_set, List.length_set, hl]
  by_cases e : i = k
  · subst e
    refine ⟨?_, ?_, ?_⟩
    · rw [if_neg (by omega), if_neg (by omega), if_pos rfl, if_pos (by omega)]
    · rw [if_neg (by omega), if_pos rfl, if_pos (by omega)]
    · rw [if_pos rfl, if_pos (by omega)]
  · obtain ⟨a, b, c⟩ := h2 i (by omega)
    refine ⟨?_, ?_, ?_⟩
    · rw [if_neg (by omega), if_neg (by omega), if_neg (by omega)]; exact a
    · rw [if_neg (by omega), if_neg (by omega), if_neg (by omega)]; exact b
    · rw [if_neg (by omega), if_neg (by omega), if_neg (by omega)]; exact c

theorem Sls.below {u wr : World} {bs bv : Nat} (h : Sls u bs bv wr) : Below bs u wr := by
  obtain ⟨ys, h1, h2, h3, h4⟩ := h
  exact h3

/-- 'copy' between two rows of elements of z cells each. -/
theorem run_copy_rowz {P : Program} (w : World) (dT sT ty elem : TypeId) (z g o dLen dCap : Nat) (a : Addr) (sLen sCap : Nat) (cur : Array Value) (t : TypeId) (cs : List Value)
    (hu : P.underlying dT = some (.slice elem)) (hs : (P.info? elem).map (·.size) = some z)
    (hg : w.heap[g]? = some (.cells cur t (0, 0))) (hn : cs.length = Nat.min sLen dLen * z)
    (hsrc : ∀ j v, cs[j]? = some v → w.cell? (a.add j) = some v) (hfit : o + cs.length ≤ cur.size) (h1 : ∀ v ∈ cs, v.oneCell' = true) :
    (Builtin.copy_ #[dT, sT] ty #[.slice (some ⟨g, o, none⟩) dLen dCap, .slice (some a) sLen sCap]).run P w =
      .ok (goInt (Nat.min sLen dLen)) (w.setRow g (cur.toList.take o ++ cs ++ cur.toList.drop (o + cs.length)).toArray) := by
  have hl := run_loadCells_list (P := P) w a cs hsrc
  have hst := run_storeCells_at P g o t cs 0 cur w hg (by simpa using hfit) h1
  cases hq : P.info? elem with
  | none => simp [hq] at hs
  | some i =>
    have hi : i.size = z := by simpa [hq] using hs
    simp [Builtin.copy_, run_underlying hu, Builtin.lenOf, Builtin.firstCells, sizeOf, typeInfo, hq, hi, ← hn, hl, hst]

/-- the copy of the waits' row at bw into the new row at g -/
theorem copy_waits {W : World} {bw g n B : Nat} {xs ys : List Value} (hb : W.ownsRow B 44 3 (.slice (some ⟨bw, 0, none⟩) n n) n xs) (hg : W.ownsRow g 44 3 (.slice (some ⟨g, 0, none⟩) n n) n ys) (h1 : ∀ v ∈ xs, v.oneCell' = true) (ty : TypeId) :
    ∃ W', (Builtin.copy_ #[40, 40] ty #[.slice (some ⟨g, 0, none⟩) n n, .slice (some ⟨bw, 0, none⟩) n n]).run Yba.prog W = .ok (.int .i64 n) W' ∧ (∀ j, j < n * 3 → W'.cell? ⟨g, j, none⟩ = xs[j]?) ∧ Below g W W' ∧ (∀ b, b ≠ g → W'.heap[b]? = W.heap[b]?) ∧ W'.heap.size = W.heap.size := by
  rcases hg.2 with ⟨h', _⟩ | ⟨g', cap', cur, h', hgg, hc, _, _, hcs, _⟩
  · simp at h'
  · simp only [Value.slice.injEq, Option.some.injEq, Addr.mk.injEq, and_true, true_and] at h'
    obtain ⟨rfl, rfl⟩ := h'
    have hl : xs.length = n * 3 := hb.1
    have hrun := run_copy_rowz (P := Yba.prog) W 40 40 ty 44 3 g 0 n n ⟨bw, 0, none⟩ n n cur 44 xs Yba.underlying40 (by kernel_rfl) hc (by rw [hl]; simp) (hb.cells rfl) (by omega) h1
    have e : (cur.toList.take 0 ++ xs ++ cur.toList.drop (0 + xs.length)).toArray = xs.toArray := by
      rw [List.drop_eq_nil_of_le (by simp; omega)]; simp
    rw [e] at hrun
    refine ⟨W.setRow g xs.toArray, by rw [hrun]; simp [goInt], fun j hj => ?_, below_setRow (Below.refl _ _) (Nat.le_refl _) _, fun b hbg => setRow_other W g b _ (by omega), by simp [World.setRow]⟩
    have := setRow_heap W g cur xs.toArray 44 (0, 0) hc
    rw [cell_of_row _ g j _ 44 (0, 0) this]
    simp

/-- What lies in memory ahead of the boxes: the nonterminals at bn, the slots at bs with their variable at bsv, the start's variable at btv, the waits at bw, their copy at bg with its variable at bq. -/
structure Lay (W : World) (bn bs bsv btv bw bg bq n s : Nat) (ex : Nat → Int) (ph : Nat → Bool) (ow nx : Nat → Nat) (og : Nat → Int) : Prop where
  nex : ∀ i, i < 3 → W.cell? ⟨bn, i * 20 + 7, none⟩ = some (.int .i32 (ex i))
  nph : ∀ i, i < 3 → W.cell? ⟨bn, i * 20 + 18, none⟩ = some (.bool (ph i))
  sow : ∀ i, i < 4 → W.cell? ⟨bs, i * 10 + 5, none⟩ = some (.int .i32 (ow i))
  svar : W.cell? ⟨bsv, 0, none⟩ = some (.slice (some ⟨bs, 0, none⟩) 4 4)
  tvar : W.cell? ⟨btv, 0, none⟩ = some (.int .i32 s)
  wnx : ∀ i, i < n → W.cell? ⟨bw, i * 3, none⟩ = some (.int .i32 (nx i))
  wog : ∀ i, i < n → W.cell? ⟨bw, i * 3 + 1, none⟩ = some (.int .i32 (og i))
  wit : ∀ i, i < n → W.cell? ⟨bw, i * 3 + 2, none⟩ = some (.int .i32 i)
  qvar : W.cell? ⟨bq, 0, none⟩ = some (.slice (some ⟨bg, 0, none⟩) n n)
  gnx : ∀ i, i < n → W.cell? ⟨bg, i * 3, none⟩ = some (.int .i32 (nx i))
  gog : ∀ i, i < n → W.cell? ⟨bg, i * 3 + 1, none⟩ = some (.int .i32 (og i))
  git : ∀ i, i < n → W.cell? ⟨bg, i * 3 + 2, none⟩ = some (.int .i32 i)
  owl : ∀ i, ow i < 3
  nxl : ∀ i, nx i < 4
  sl : s < 3

theorem Lay.below {w w' : World} {bn bs bsv btv bw bg bq n s : Nat} {ex : Nat → Int} {ph : Nat → Bool} {ow nx : Nat → Nat} {og : Nat → Int} (h : Lay w bn bs bsv btv bw bg bq n s ex ph ow nx og) (hb : Below w.heap.size w w') :
    Lay w' bn bs bsv btv bw bg bq n s ex ph ow nx og where
  nex := fun i hi => cell_later hb (h.nex i hi)
  nph := fun i hi => cell_later hb (h.nph i hi)
  sow := fun i hi => cell_later hb (h.sow i hi)
  svar := cell_later hb h.svar
  tvar := cell_later hb h.tvar
  wnx := fun i hi => cell_later hb (h.wnx i hi)
  wog := fun i hi => cell_later hb (h.wog i hi)
  wit := fun i hi => cell_later hb (h.wit i hi)
  qvar := cell_later hb h.qvar
  gnx := fun i hi => cell_later hb (h.gnx i hi)
  gog := fun i hi => cell_later hb (h.gog i hi)
  git := fun i hi => cell_later hb (h.git i hi)
  owl := h.owl
  nxl := h.nxl
  sl := h.sl

theorem fun3 {α : Type} {p : Nat → α → Prop} (h : ∀ i, i < 3 → ∃ a, p i a) : ∃ f : Nat → α, ∀ i, i < 3 → p i (f i) := by
  obtain ⟨a0, h0⟩ := h 0 (by omega)
  obtain ⟨a1, h1⟩ := h 1 (by omega)
  obtain ⟨a2, h2⟩ := h 2 (by omega)
  refine ⟨fun i => if i = 0 then a0 else if i = 1 then a1 else a2, fun i hi => ?_⟩
  match i, hi with
  | 0, _ => exact h0
  | 1, _ => exact h1
  | 2, _ => exact h2
theorem fun4 {α : Type} {p : Nat → α → Prop} (h : ∀ i, i < 4 → ∃ a, p i a) : ∃ f : Nat → α, (∀ i, i < 4 → p i (f i)) ∧ ∀ i, f i = f 0 ∨ f i = f 1 ∨ f i = f 2 ∨ f i = f 3 := by
  obtain ⟨a0, h0⟩ := h 0 (by omega)
  obtain ⟨a1, h1⟩ := h 1 (by omega)
  obtain ⟨a2, h2⟩ := h 2 (by omega)
  obtain ⟨a3, h3⟩ := h 3 (by omega)
  refine ⟨fun i => if i = 0 then a0 else if i = 1 then a1 else if i = 2 then a2 else a3, fun i hi => ?_, fun i => ?_⟩
  · match i, hi with
    | 0, _ => exact h0
    | 1, _ => exact h1
    | 2, _ => exact h2
    | 3, _ => exact h3
  · by_cases e0 : i = 0
    · subst e0; exact Or.inl rfl
    · by_cases e1 : i = 1
      · subst e1; exact Or.inr (Or.inl rfl)
      · by_cases e2 : i = 2
        · subst e2; exact Or.inr (Or.inr (Or.inl rfl))
        · exact Or.inr (Or.inr (Or.inr (by simp [e0, e1, e2])))

theorem lay4 {w u1 u2 u3 W4 : World} {bsv n bq : Nat} {st : Int} {zn zo : Nat → Int} {xs : List Value} (hN : Nts w u1) (hS : Sls u1 u1.heap.size bsv u2) (hsv : bsv < u2.heap.size)
    (hown : u3.ownsRow (u2.heap.size + 1) 44 3 (.slice (some ⟨u2.heap.size + 1, 0, none⟩) n n) n xs) (hxs : ∀ i, i < n → xs[i * 3]? = some (.int .i32 (zn i % 4)) ∧ xs[i * 3 + 1]? = some (.int .i32 (zo i)) ∧ xs[i * 3 + 2]? = some (.int .i32 i))
    (hb3 : Below (u2.heap.size + 1) (u2.alloc (.cells #[.int .i32 (st % 3)] 21)) u3) (hb4 : Below u3.heap.size u3 W4) (hq : W4.cell? ⟨bq, 0, none⟩ = some (.slice (some ⟨u3.heap.size, 0, none⟩) n n))
    (hg : ∀ j, j < n * 3 → W4.cell? ⟨u3.heap.size, j, none⟩ = xs[j]?) :
    ∃ ex ph ow, Lay W4 w.heap.size u1.heap.size bsv u2.heap.size (u2.heap.size + 1) u3.heap.size bq n (st % 3).toNat ex ph ow (fun i => (zn i % 4).toNat) zo := by
  obtain ⟨xn, n1, n2, n3⟩ := hN
  obtain ⟨ys, s1, s2, s3, s4⟩ := hS
  obtain ⟨ex, hex⟩ := fun3 n2.1
  obtain ⟨ph, hph⟩ := fun3 n2.2
  obtain ⟨ow, how, how'⟩ := fun4 s2
  have b23 : Below u2.heap.size u2 u3 := ((Below.refl _ _).alloc (Nat.le_refl _) _).trans (hb3.mono (by omega))
  have b24 : Below u2.heap.size u2 W4 := b23.trans (hb4.mono b23.size)
  have b14 : Below u1.heap.size u1 W4 := s3.trans (b24.mono s3.size)
  have e4 : ∀ i, ((zn i % 4).toNat : Int) = zn i % 4 := fun i => by omega
  have hl : xs.length = n * 3 := hown.1
  refine ⟨ex, ph, ow, ⟨fun i hi => cell_later b14 ((n1.cellAt _ (by omega)).trans (hex i hi)), fun i hi => cell_later b14 ((n1.cellAt _ (by omega)).trans (hph i hi)), fun i hi => cell_later b24 ((s1.cellAt _ (by omega)).trans (how i hi).2),
    cell_later b24 s4, cell_later hb4 ?_, fun i hi => cell_later hb4 ((hown.cellAt _ (by omega)).trans ?_), fun i hi => cell_later hb4 ((hown.cellAt _ (by omega)).trans (hxs i hi).2.1), fun i hi => cell_later hb4 ((hown.cellAt _ (by omega)).trans (hxs i hi).2.2), hq,
    fun i hi => (hg _ (by omega)).trans ?_, fun i hi => (hg _ (by omega)).trans (hxs i hi).2.1, fun i hi => (hg _ (by omega)).trans (hxs i hi).2.2, fun i => ?_, fun i => by omega, by omega⟩⟩
  · rw [hb3.cell (by show u2.heap.size < _; omega)]
    rw [show ((st % 3).toNat : Int) = st % 3 by omega]
    simp
  · rw [e4]; exact (hxs i hi).1
  · rw [e4]; exact (hxs i hi).1
  · have h0 := (how 0 (by omega)).1
    have h1 := (how 1 (by omega)).1
    have h2 := (how 2 (by omega)).1
    have h3 := (how 3 (by omega)).1
    rcases how' i with e | e | e | e <;> rw [e] <;> assumption

/-- the recognizer's cells -/
def rcells (p : Addr) (q r : Bool) : Array Value := #[.pointer none, .pointer (some p), .slice none 0 0, .slice none 0 0, .int .u64 0, .slice none 0 0, .slice none 0 0, .slice none 0 0, .slice none 0 0, .slice none 0 0, .int .i64 0, .bool false, .slice none 0 0, .int .i64 0, .bool q, .bool false, .slice none 0 0, .int .i64 0, .int .i64 0, .slice none 0 0, .int .i64 0, .int .i64 0, .map none, .slice none 0 0, .slice none 0 0, .slice none 0 0, .pointer none, .pointer none, .map none, .pointer none, .map none, .map none, .slice none 0 0, .map none, .map none, .slice none 0 0, .slice none 0 0, .map none, .slice none 0 0, .slice none 0 0, .slice none 0 0, .int .u64 0, .slice none 0 0, .slice none 0 0, .slice none 0 0, .int .u64 0, .slice none 0 0, .slice none 0 0, .slice none 0 0, .int .u64 0, .slice none 0 0, .slice none 0 0, .slice none 0 0, .slice none 0 0, .slice none 0 0, .slice none 0 0, .slice none 0 0, .slice none 0 0, .int .u64 0, .slice none 0 0, .slice none 0 0, .slice none 0 0, .int .u64 0, .slice none 0 0, .map none, .map none, .int .u32 0, .bool false, .bool false, .int .i64 0, .pointer none, .bool r, .pointer none, .slice none 0 0, .slice none 0 0, .int .u64 0, .slice none 0 0]

theorem build91 (w : World) (p : Addr) (q r : Bool) : (Instr.build 91 #[(1, .pointer (some p)), (11, .bool q), (50, .bool r)]).run Yba.prog w = .ok (.agg (rcells p q r)) w :=
  run_build (P := Yba.prog) w 91 #[(1, .pointer (some p)), (11, .bool q), (50, .bool r)] (rcells p q r) (by kernel_rfl)
theorem rcells1 (p : Addr) (q r : Bool) : (rcells p q r)[1]? = some (.pointer (some p)) := rfl
theorem rcells14 (p : Addr) (q r : Bool) : (rcells p q r)[14]? = some (.bool q) := rfl
theorem rcells29 (p : Addr) (q r : Bool) : (rcells p q r)[29]? = some (.pointer none) := rfl
theorem rcells71 (p : Addr) (q r : Bool) : (rcells p q r)[71]? = some (.bool r) := rfl

theorem wp_build91 {o : Oper} {a : Act} {w : World} {K : Act → World → Prop} {Q : Exit → Act → World → Prop} (x y z : Operand) {p : Addr} {q r : Bool} (ho : o.op = .build 91 #[(1, x), (11, y), (50, z)])
    (hx : a.eval x = .pointer (some p)) (hy : a.eval y = .bool q) (hz : a.eval z = .bool r) (h : K (a.put o.dst (.agg (rcells p q r))) w) : o.wp Yba.prog a w K Q := by
  have hb : Yba.prog.built 91 (#[(1, x), (11, y), (50, z)].map fun (i, x) => (i, a.eval x)).toList = some (rcells p q r) := by
    simp only [List.map_toArray, List.map_cons, List.map_nil, hx, hy, hz]
    kernel_rfl
  refine wp_build (P := Yba.prog) 91 #[(1, x), (11, y), (50, z)] ho (by rw [hb]; rfl) ?_
  rw [hb]
  exact h
theorem wpList_build91 {ops : Array Oper} {rest : List Oper} {o : Oper} {a : Act} {w : World} {Q : Exit → Act → World → Prop} (hg : o.guard = none) (x y z : Operand) {p : Addr} {q r : Bool} (ho : o.op = .build 91 #[(1, x), (11, y), (50, z)])
    (hx : a.eval x = .pointer (some p)) (hy : a.eval y = .bool q) (hz : a.eval z = .bool r) (h : wpList Yba.prog ops Q rest (a.put o.dst (.agg (rcells p q r))) w) : wpList Yba.prog ops Q (o :: rest) a w :=
  wpList_plain hg fun _ hK => wp_build91 x y z ho hx hy hz (hK _ _ h)

theorem at3 (W : World) (o1 o2 : Obj) (c : Array Value) (t : TypeId) (i : Nat) : (((W.alloc o1).alloc o2).alloc (.cells c t)).cell? ⟨W.heap.size + 1 + 1, i, none⟩ = c[i]? := World.cell?_alloc_at _ _ _ _ (by simp)
theorem at2 (W : World) (o1 o3 : Obj) (c : Array Value) (t : TypeId) (i : Nat) : (((W.alloc o1).alloc (.cells c t)).alloc o3).cell? ⟨W.heap.size + 1, i, none⟩ = c[i]? := by
  rw [World.cell?_alloc_past _ _ _ (by simp)]; exact World.cell?_alloc_at _ _ _ _ (by simp)
theorem at1 (W : World) (o2 o3 : Obj) (c : Array Value) (t : TypeId) (i : Nat) : (((W.alloc (.cells c t)).alloc o2).alloc o3).cell? ⟨W.heap.size, i, none⟩ = c[i]? := by
  rw [World.cell?_alloc_past _ _ _ (by simp; omega), World.cell?_alloc_past _ _ _ (by simp)]; exact World.cell?_alloc_at _ _ _ _ rfl

theorem ch_of_lay {W4 : World} {bn bs bsv btv bw bg bq n s : Nat} {ex : Nat → Int} {ph : Nat → Bool} {ow nx : Nat → Nat} {og : Nat → Int} {st : Int} {kd rb sd : Bool} (hL : Lay W4 bn bs bsv btv bw bg bq n s ex ph ow nx og) (hs : st = (s : Int)) :
    Ch (((W4.alloc (.cells #[.int .i32 st, .slice (some ⟨bn, 0, none⟩) 3 3, .slice (some ⟨bs, 0, none⟩) 4 4, .slice none 0 0] 48)).alloc
      (.cells #[.pointer (some ⟨W4.heap.size, 0, none⟩), .pointer none, .int .i32 st, .slice none 0 0, .int .i64 0, .slice none 0 0, .int .i32 0, .bool false, .slice none 0 0, .slice none 0 0, .slice none 0 0, .bool false, .slice none 0 0, .slice none 0 0,
        .slice (some ⟨bw, 0, none⟩) n n, .slice none 0 0, .slice none 0 0, .slice none 0 0, .slice none 0 0, .slice none 0 0, .slice none 0 0, .int .i64 0, .int .i64 0, .int .i64 0, .bool sd, .map none] 61)).alloc
      (.cells (rcells ⟨W4.heap.size + 1, 0, none⟩ kd rb) 91)) (W4.heap.size + 1 + 1) (W4.heap.size + 1) W4.heap.size bn bs bw n s kd rb sd ex ph ow nx og := by
  subst hs
  have hb : ∀ o1 o2 o3 : Obj, Below W4.heap.size W4 (((W4.alloc o1).alloc o2).alloc o3) := fun o1 o2 o3 => (((Below.refl _ _).alloc (Nat.le_refl _) _).alloc (by simp) _).alloc (by simp; omega) _
  refine ⟨?_, ?_, ?_, ?_, ?_, ?_, ?_, ?_, ?_, ?_, fun i hi => cell_later (hb _ _ _) (hL.nex i hi), fun i hi => cell_later (hb _ _ _) (hL.nph i hi), fun i hi => cell_later (hb _ _ _) (hL.sow i hi), fun i hi => cell_later (hb _ _ _) (hL.wnx i hi), fun i hi => cell_later (hb _ _ _) (hL.wog i hi),
    fun i hi => cell_later (hb _ _ _) (hL.wit i hi), hL.owl, hL.nxl, hL.sl⟩
  · rw [at3, rcells1]
  · rw [at3, rcells14]
  · rw [at3, rcells29]
  · rw [at3, rcells71]
  · rw [at2]; rfl
  · rw [at2]; rfl
  · rw [at2]; rfl
  · rw [at2]; rfl
  · rw [at1]; rfl
  · rw [at1]; rfl

theorem below_three (W : World) (o1 o2 o3 : Obj) : Below W.heap.size W (((W.alloc o1).alloc o2).alloc o3) := (((Below.refl _ _).alloc (Nat.le_refl _) _).alloc (by simp) _).alloc (by simp; omega) _

theorem wrap32_mod (x : Int) (m : Nat) (hx : 0 ≤ x) (hm : 0 < m) (hm' : m ≤ 2000) : ∃ k : Nat, wrap32 (x % (m : Int)) = (k : Int) ∧ k < m := by
  have h2 := Int.emod_nonneg x (show (m : Int) ≠ 0 by omega)
  have h3 := Int.emod_lt_of_pos x (show 0 < (m : Int) by omega)
  exact ⟨(x % (m : Int)).toNat, by rw [IntWalk.wrap32_in _ ⟨by omega, by omega⟩]; omega, by omega⟩

theorem law_cl {X : World} {bn bs bsv btv bw bg bq n s : Nat} {ex : Nat → Int} {ph : Nat → Bool} {ow nx : Nat → Nat} {og : Nat → Int} (h : Lay X bn bs bsv btv bw bg bq n s ex ph ow nx og) (hn : n ≤ 1024) {i : Nat} (hi : i < n) {m : Bool} (hm : sgB (og i) (ow (nx i)) s = m) (x : Cl X) :
    Calls Yba.prog 7 #[.int .i32 i, .pointer (some ⟨bq, 0, none⟩), .pointer (some ⟨bsv, 0, none⟩), .pointer (some ⟨btv, 0, none⟩)] x.v fun e w' => e = .returned (.bool m) ∧ ∃ y : Cl X, w' = y.v := by
  refine (lawsingle_any i n (nx i) (ow (nx i)) (og i) s bq bsv btv bg bs x.v hi hn (h.nxl i) (x.cell h.qvar) (x.cell h.svar) (x.cell h.tvar) (x.cell (h.gnx i hi)) (x.cell (h.gog i hi)) (x.cell (h.sow _ (h.nxl i)))).mono ?_
  rintro e w' ⟨rfl, q, rfl⟩
  exact ⟨by rw [hm], cl_mk x (below_drewN (Below.refl _ _) q)⟩

theorem law_w {X : World} {bn bs bsv btv bw bg bq n s : Nat} {ex : Nat → Int} {ph : Nat → Bool} {ow nx : Nat → Nat} {og : Nat → Int} (h : Lay X bn bs bsv btv bw bg bq n s ex ph ow nx og) (hn : n ≤ 1024) {i : Nat} (hi : i < n) {m : Bool} (hm : sgB (og i) (ow (nx i)) s = m) :
    Calls Yba.prog 7 #[.int .i32 i, .pointer (some ⟨bq, 0, none⟩), .pointer (some ⟨bsv, 0, none⟩), .pointer (some ⟨btv, 0, none⟩)] X fun e w' => e = .returned (.bool m) ∧ Below X.heap.size X w' := by
  refine (law_cl h hn hi hm ⟨X, Below.refl _ _⟩).mono ?_
  rintro e w' ⟨rfl, y, rfl⟩
  exact ⟨rfl, y.h⟩

set_option maxRecDepth 100000 in
set_option maxHeartbeats 8000000 in
theorem brun_walk (bx ox n cap0 : Nat) (zn zo : Nat → Int) (a1 : Option Addr) (n1 c1 : Nat) (z1 : Nat → Int) (a2 : Option Addr) (n2 c2 : Nat) (z2 : Nat → Int) (a3 : Option Addr) (n3 c3 : Nat) (z3 : Nat → Bool) (st : Int) (sd kd rb : Bool) (kr tr : Int) (w : World)
    (hn0 : 0 < n) (hn : n ≤ 1024) (hx : bx < w.heap.size) (hxn : ∀ i, i < n → w.cell? ⟨bx, ox + i * 2, none⟩ = some (.int .u8 (zn i))) (hxo : ∀ i, i < n → w.cell? ⟨bx, ox + i * 2 + 1, none⟩ = some (.int .i8 (zo i)))
    (hzn : ∀ i, 0 ≤ zn i ∧ zn i ≤ 255) (hzo : ∀ i, -128 ≤ zo i ∧ zo i ≤ 127)
    (h1 : Row1 w a1 n1 (fun i => .int .u8 (z1 i))) (hz1 : ∀ i, 0 ≤ z1 i ∧ z1 i ≤ 255) (h2 : Row1 w a2 n2 (fun i => .int .i8 (z2 i))) (hz2 : ∀ i, -128 ≤ z2 i ∧ z2 i ≤ 127) (h3 : Row1 w a3 n3 (fun i => .bool (z3 i)))
    (hl1 : n1 ≤ maxLen) (hl2 : n2 ≤ maxLen) (hl3 : n3 ≤ maxLen)
    (hst : 0 ≤ st) (hst' : st ≤ 255) (hkr : 0 ≤ kr) (hkr' : kr ≤ 65535) (htr : 0 ≤ tr) (htr' : tr ≤ 65535) :
    Calls Yba.prog 3 #[.slice (some ⟨bx, ox, none⟩) n cap0, .slice a1 n1 c1, .slice a2 n2 c2, .slice a3 n3 c3, .int .u8 st, .bool sd, .bool kd, .bool rb, .int .u16 kr, .int .u16 tr] w fun e w' => e = .returned (.bool true) ∧ Below w.heap.size w w' := by
  obtain ⟨i34, hi34, hz34, hs34, hy34⟩ := info_parts Yba.info34
  obtain ⟨i39, hi39, hz39, hs39, hy39⟩ := info_parts Yba.info39
  obtain ⟨i44, hi44, hz44, hs44, hy44⟩ := info_parts Yba.info44
  have HXN : Hid (∀ i, i < n → w.cell? ⟨bx, ox + i * 2, none⟩ = some (.int .u8 (zn i))) := hxn
  have HXO : Hid (∀ i, i < n → w.cell? ⟨bx, ox + i * 2 + 1, none⟩ = some (.int .i8 (zo i))) := hxo
  have HZN : Hid (∀ i, 0 ≤ zn i ∧ zn i ≤ 255) := hzn
  have HZO : Hid (∀ i, -128 ≤ zo i ∧ zo i ≤ 127) := hzo
  have HZ1 : Hid (∀ i, 0 ≤ z1 i ∧ z1 i ≤ 255) := hz1
  have HZ2 : Hid (∀ i, -128 ≤ z2 i ∧ z2 i ≤ 127) := hz2
  have H1 : Hid (Row1 w a1 n1 (fun i => .int .u8 (z1 i))) := h1
  have H2 : Hid (Row1 w a2 n2 (fun i => .int .i8 (z2 i))) := h2
  have H3 : Hid (Row1 w a3 n3 (fun i => .bool (z3 i))) := h3
  unfold maxLen at hl1 hl2 hl3
  clear hxn hxo hzn hzo hz1 hz2 h1 h2 h3
  have hd1 : decide ((1024 : Int) < (n : Int)) = false := by simp; omega
  have hd2 : ((n : Int) == 0) = false := by simp; omega
  go_enter Yba.func3, Yba.ntmps3
  go_wp2_with (at_make; refine wpList_make_full _ rfl _ _ 27 rfl w.heap.size 34 i34 _ 20 Yba.underlying27 hi34 hz34 hs34 _ _ _ _ 3 rfl rfl rfl rfl ?b2 ?b3 (Nat.le_refl _) ?_)
  case b2 => rw [hy34]; omega
  case b3 => unfold maxLen; omega
  intro w0 hown0 hgrow0
  go_wp2
  go_loopw [22] (fun v wr => ∃ k : Nat, k ≤ 3 ∧ v = .int .i64 k ∧ Nts w wr) (fun v _ => 3 - (intOf v).toNat)
  case atStart => exact ⟨0, Nat.zero_le _, rfl, _, hown0, nts_start, (Below.refl _ _).grown hgrow0 (Nat.le_refl _) (fun k h => by cases h)⟩
  case round =>
    clear hown0 hgrow0
    obtain ⟨k, hk, rfl, hN⟩ := hrel
    by_cases hk3 : k < 3
    · have HN : Hid (Nts w wr) := hN
      obtain ⟨xs, hown, hnt, hbel⟩ := hN
      have hxl : xs.length = 60 := hown.1
      obtain ⟨e7, he7⟩ := hnt.1 k hk3
      obtain ⟨p18, hp18⟩ := hnt.2 k hk3
      have q7 : wr.cell? ⟨w.heap.size, k * 20 + 7, none⟩ = some (.int .i32 e7) := (hown.cellAt _ (by omega)).trans he7
      have q18 : wr.cell? ⟨w.heap.size, k * 20 + 18, none⟩ = some (.bool p18) := (hown.cellAt _ (by omega)).trans hp18
      have f7 := hown.frozenAt (k * 20 + 7)
      have f18 := hown.frozenAt (k * 20 + 18)
      clear he7 hp18 hxl hown hnt
      by_cases hk2 : k < n2
      · rcases H2.out with h0 | ⟨b2, o2, rfl, hb2, hc2⟩
        · omega
        · have d2 : wr.cell? ⟨b2, o2 + k, none⟩ = some (.int .i8 (z2 k)) := (hbel.cell (by exact hb2)).trans (hc2 k hk2)
          have z2k := HZ2.out k
          by_cases hk4 : k < n3
          · rcases H3.out with h0 | ⟨b3, o3, rfl, hb3, hc3⟩
            · omega
            · have d3 : wr.cell? ⟨b3, o3 + k, none⟩ = some (.bool (z3 k)) := (hbel.cell (by exact hb3)).trans (hc3 k hk4)
              clear hc2 hc3 hbel
              go_wp2
              all_goals
                go_roundw
                case rel => exact ⟨k + 1, by omega, by go_num, by repeat (first | exact HN.out | refine Nts.set7 ?_ hk3 _ | refine Nts.set18 ?_ hk3 _)⟩
                case measure => simp [intOf]; omega
          · clear hc2 hbel
            go_wp2
            all_goals
              go_roundw
              case rel => exact ⟨k + 1, by omega, by go_num, by repeat (first | exact HN.out | refine Nts.set7 ?_ hk3 _ | refine Nts.set18 ?_ hk3 _)⟩
              case measure => simp [intOf]; omega
      · by_cases hk4 : k < n3
        · rcases H3.out with h0 | ⟨b3, o3, rfl, hb3, hc3⟩
          · omega
          · have d3 : wr.cell? ⟨b3, o3 + k, none⟩ = some (.bool (z3 k)) := (hbel.cell (by exact hb3)).trans (hc3 k hk4)
            clear hc3 hbel
            go_wp2
            all_goals
              go_roundw
              case rel => exact ⟨k + 1, by omega, by go_num, by repeat (first | exact HN.out | refine Nts.set7 ?_ hk3 _ | refine Nts.set18 ?_ hk3 _)⟩
              case measure => simp [intOf]; omega
        · clear hbel
          go_wp2
          all_goals
            go_roundw
            case rel => exact ⟨k + 1, by omega, by go_num, by repeat (first | exact HN.out | refine Nts.set7 ?_ hk3 _ | refine Nts.set18 ?_ hk3 _)⟩
            case measure => simp [intOf]; omega
    · obtain ⟨u1, hu1⟩ : ∃ u, u = wr := ⟨_, rfl⟩
      subst hu1
      have HN : Hid (Nts w u1) := hN
      have hwu : w.heap.size < u1.heap.size := by
        obtain ⟨xs, hown, _⟩ := hN
        exact (hown.lt _ rfl).2
      clear hN H2 H3 HZ2 hl2 hl3
      go_wp2_with (at_make; refine wpList_make_full _ rfl _ _ 36 rfl u1.heap.size 39 i39 _ 10 Yba.underlying36 hi39 hz39 hs39 _ _ _ _ 4 rfl rfl rfl rfl ?b2 ?b3 (Nat.le_refl _) ?_)
      case b2 => rw [hy39]; omega
      case b3 => unfold maxLen; omega
      intro w1 hown1 hgrow1
      have hw1 : u1.heap.size < w1.heap.size := (hown1.lt _ rfl).2
      have hS1 : Sls u1 u1.heap.size w1.heap.size (w1.alloc (.cells #[.slice (some ⟨u1.heap.size, 0, none⟩) 4 4] 36)) :=
        ⟨_, hown1.alloc _, sl_start, ((Below.refl _ _).grown hgrow1 (Nat.le_refl _) (fun k h => by cases h)).alloc (by omega) _, by simp⟩
      clear hown1 hgrow1
      go_wp2
      go_loopw [24] (fun v wq => ∃ k : Nat, k ≤ 4 ∧ v = .int .i64 k ∧ Sls u1 u1.heap.size w1.heap.size wq) (fun v _ => 4 - (intOf v).toNat)
      case atStart => exact ⟨0, Nat.zero_le _, rfl, hS1⟩
      case round =>
        clear hS1
        obtain ⟨k', hk', rfl, hS⟩ := hrel
        by_cases hk4 : k' < 4
        · have HS : Hid (Sls u1 u1.heap.size w1.heap.size wr) := hS
          obtain ⟨ys, hown, hsl, hbel, hvar⟩ := hS
          obtain ⟨o5, ho5, he5⟩ := hsl k' hk4
          have q5 : wr.cell? ⟨u1.heap.size, k' * 10 + 5, none⟩ = some (.int .i32 o5) := (hown.cellAt _ (by omega)).trans he5
          have f5 := hown.frozenAt (k' * 10 + 5)
          clear he5 hown hsl
          by_cases hk1 : k' < n1
          · rcases H1.out with h0 | ⟨b1, o1, rfl, hb1, hc1⟩
            · omega
            · have d1 : wr.cell? ⟨b1, o1 + k', none⟩ = some (.int .u8 (z1 k')) := (hbel.cell (by show b1 < u1.heap.size; omega)).trans ((HN.out.below.cell (by exact hb1)).trans (hc1 k' hk1))
              have z1k := HZ1.out k'
              clear hc1 hbel
              have hq4 : ((k' : Nat) : Int) < 4 := by omega
              go_wp2
              go_region
              all_goals
                go_wp2
                go_roundw
                case rel => exact ⟨k' + 1, by omega, by go_num, (HS.out.setI hk4 (by omega) (by omega) hw1).drew⟩
                case measure => simp [intOf]; omega
          · clear hbel
            go_wp2
            go_roundw
            case rel => exact ⟨k' + 1, by omega, by go_num, HS.out⟩
            case measure => simp [intOf]; omega
        · obtain ⟨u2, hu2⟩ : ∃ u, u = wr := ⟨_, rfl⟩
          subst hu2
          have HS : Hid (Sls u1 u1.heap.size w1.heap.size u2) := hS
          have hwu2 : w1.heap.size < u2.heap.size := by
            obtain ⟨_, _, _, _, hv⟩ := hS
            exact World.block_lt_of_cell? _ _ hv
          clear hS H1 HZ1 hl1
          go_wp2_with (at_make; refine wpList_make_full _ rfl _ _ 40 rfl (u2.heap.size + 1) 44 i44 _ 3 Yba.underlying40 hi44 hz44 hs44 _ _ _ _ n rfl rfl rfl rfl ?b2 ?b3 ?b4 ?_)
          case b2 => rw [hy44]; omega
          case b3 => unfold maxLen; omega
          case b4 => simp
          intro w2 hown2 hgrow2
          have hW0 : Wts (u2.alloc (.cells #[.int .i32 (st % 3)] 21)) (u2.heap.size + 1) n 0 zn zo w2 := ⟨_, hown2, fun i hi => by omega, (Below.refl _ _).grown hgrow2 (by simp) (fun k h => by cases h)⟩
          clear hown2 hgrow2
          go_wp2
          go_loopw [27] (fun v wq => ∃ k : Nat, k ≤ n ∧ v = .int .i64 k ∧ Wts (u2.alloc (.cells #[.int .i32 (st % 3)] 21)) (u2.heap.size + 1) n k zn zo wq) (fun v _ => n - (intOf v).toNat)
          case atStart => exact ⟨0, Nat.zero_le _, rfl, hW0⟩
          case round =>
            clear hW0
            obtain ⟨j, hj, rfl, hW⟩ := hrel
            by_cases hjn : j < n
            · have HW : Hid (Wts (u2.alloc (.cells #[.int .i32 (st % 3)] 21)) (u2.heap.size + 1) n j zn zo wr) := hW
              obtain ⟨v0, q0⟩ := hW.at (j := j * 3) (by omega)
              obtain ⟨v1, q1⟩ := hW.at (j := j * 3 + 1) (by omega)
              obtain ⟨v2, q2⟩ := hW.at (j := j * 3 + 2) (by omega)
              have f0 := hW.frozen (j * 3)
              have f1 := hW.frozen (j * 3 + 1)
              have f2 := hW.frozen (j * 3 + 2)
              have hu : Below w.heap.size w wr := ((HN.out.below.trans (HS.out.below.mono (by omega))).alloc (by omega) _).trans (hW.below.mono (by omega))
              have g0 : wr.cell? ⟨bx, ox + j * 2, none⟩ = some (.int .u8 (zn j)) := (hu.cell (by exact hx)).trans (HXN.out j hjn)
              have g1 : wr.cell? ⟨bx, ox + j * 2 + 1, none⟩ = some (.int .i8 (zo j)) := (hu.cell (by exact hx)).trans (HXO.out j hjn)
              have znj := HZN.out j
              have zoj := HZO.out j
              clear hu hW
              go_wp2
              go_region
              all_goals
                go_wp2
                go_roundw
                case rel => exact ⟨j + 1, by omega, by go_num, (HW.out.put hjn).drew⟩
                case measure => simp [intOf]; omega
            · obtain rfl : j = n := by omega
              obtain ⟨u3, hu3⟩ : ∃ u, u = wr := ⟨_, rfl⟩
              subst hu3
              obtain ⟨xs, hownW, hxs, hbW⟩ := hW
              have hu3s : u2.heap.size + 1 < u3.heap.size := (hownW.lt _ rfl).2
              clear HXN HXO HZN
              go_wp2_with (at_make; refine wpList_make_full _ rfl _ _ 40 rfl u3.heap.size 44 i44 _ 3 Yba.underlying40 hi44 hz44 hs44 _ _ _ _ j rfl rfl rfl rfl ?b2 ?b3 (Nat.le_refl _) ?_)
              case b2 => rw [hy44]; omega
              case b3 => unfold maxLen; omega
              intro w3 hown3 hgrow3
              have h1c : ∀ v ∈ xs, v.oneCell' = true := fun v hv => by
                obtain ⟨q, hq, rfl⟩ := List.getElem_of_mem hv
                have hl := hownW.1
                obtain ⟨a, b, c⟩ := hxs (q / 3) (by omega)
                rcases (show q = q / 3 * 3 ∨ q = q / 3 * 3 + 1 ∨ q = q / 3 * 3 + 2 by omega) with e | e | e
                · rw [← e] at a
                  rw [List.getElem?_eq_getElem hq] at a
                  rw [Option.some.inj a]; rfl
                · rw [← e] at b
                  rw [List.getElem?_eq_getElem hq] at b
                  rw [Option.some.inj b]; rfl
                · rw [← e] at c
                  rw [List.getElem?_eq_getElem hq] at c
                  rw [Option.some.inj c]; rfl
              have hownW3 : w3.ownsRow (u2.heap.size + 1) 44 3 (.slice (some ⟨u2.heap.size + 1, 0, none⟩) j j) j xs := hownW.kept hgrow3 (by simp [Value.ownBlock])
              have hw3 : u3.heap.size < w3.heap.size := (hown3.lt _ rfl).2
              have hb3 : Below u3.heap.size u3 w3 := (Below.refl _ _).grown hgrow3 (Nat.le_refl _) (fun k h => by cases h)
              obtain ⟨W4, hrun4, hcp4, hb4, hblk4, hsz4⟩ := copy_waits (hownW3.alloc (.cells #[.slice (some ⟨u3.heap.size, 0, none⟩) j j] 40)) (hown3.alloc (.cells #[.slice (some ⟨u3.heap.size, 0, none⟩) j j] 40)) h1c 3
              have hbU4 : Below u3.heap.size u3 W4 := (hb3.alloc (by omega) _).trans hb4
              have hq4 : W4.cell? ⟨w3.heap.size, 0, none⟩ = some (.slice (some ⟨u3.heap.size, 0, none⟩) j j) := by
                rw [World.cell?_of_block (w := w3.alloc (.cells #[.slice (some ⟨u3.heap.size, 0, none⟩) j j] 40)) (hblk4 w3.heap.size (by omega))]
                simp
              obtain ⟨ex, ph, ow, hL⟩ := lay4 HN.out HS.out hwu2 hownW hxs hbW hbU4 hq4 hcp4
              have hbw4 : Below w.heap.size w W4 := (((HN.out.below.trans (HS.out.below.mono (by omega))).alloc (by omega) _).trans (hbW.mono (by omega))).trans (hbU4.mono (by omega))
              have HL : Hid (Lay W4 w.heap.size u1.heap.size w1.heap.size u2.heap.size (u2.heap.size + 1) u3.heap.size w3.heap.size j (st % 3).toNat ex ph ow (fun i => (zn i % 4).toNat) zo) := hL
              have hs4 : (((st % 3).toNat : Nat) : Int) = st % 3 := by omega
              have t1 := hL.tvar
              rw [hs4] at t1
              have t2 := hL.svar
              have t3 : u2.heap.size < W4.heap.size := World.block_lt_of_cell? _ _ t1
              have t4 : w1.heap.size < W4.heap.size := World.block_lt_of_cell? _ _ t2
              clear hsz4 hown3 hgrow3 hownW3 h1c hL hs4 hb4 hblk4 hcp4 hq4 hbU4 hownW hxs hbW HN HS HZO hb3
              go_upto_region 28 with fail
              go_wp2_with (refine wpList_build91 rfl _ _ _ rfl rfl rfl rfl ?_)
              obtain ⟨kk, hkk, hkj⟩ := wrap32_mod kr j hkr hn0 (by omega)
              obtain ⟨tt, htt, htj⟩ := wrap32_mod tr (j + 1) htr (by omega) (by omega)
              rw [show ((j + 1 : Nat) : Int) = (j : Int) + 1 by omega] at htt
              rw [hkk, htt]
              clear hkk htt
              refine (runend_any (W4.heap.size + 1 + 1) (W4.heap.size + 1) W4.heap.size w.heap.size u1.heap.size (u2.heap.size + 1) j (st % 3).toNat kk tt kd rb sd ex ph ow (fun i => (zn i % 4).toNat) zo _ hn hkj (by omega) (ch_of_lay HL.out (by omega))).mono ?_
              rintro e W6 ⟨r, hRE, rfl, hb6⟩
              have hb46 : Below W4.heap.size W4 W6 := (below_three W4 _ _ _).trans (hb6.mono (below_three W4 _ _ _).size)
              have hbw6 : Below w.heap.size w W6 := hbw4.trans (hb46.mono hbw4.size)
              have HL6 : Hid (Lay W6 w.heap.size u1.heap.size w1.heap.size u2.heap.size (u2.heap.size + 1) u3.heap.size w3.heap.size j (st % 3).toNat ex ph ow (fun i => (zn i % 4).toNat) zo) := HL.out.below hb46
              have HRE : Hid (RunEnd kd rb sd ex ph ow (fun i => (zn i % 4).toNat) zo (st % 3).toNat kk tt r) := hRE
              clear hb6 hb46 hbw4 HL t1 t2 t3 t4 hrun4 hRE
              generalize (fun i => (zn i % 4).toNat) = nx at *
              have hss : ∃ s : Nat, s = (st % 3).toNat := ⟨_, rfl⟩
              obtain ⟨s, hs⟩ := hss
              rw [← hs] at HL6 HRE
              clear hs
              go_wp2
              have hne : Nonempty (Cl W6) := ⟨⟨W6, Below.refl _ _⟩⟩
              have l1 := fun x : Cl W6 => x.cell HL6.out.qvar
              go_loopw [35] (fun v wq => ∃ q : Nat, q ≤ j ∧ v = .int .i64 q ∧ Below W6.heap.size W6 wq) (fun v _ => j - (intOf v).toNat)
              case atStart => exact ⟨0, Nat.zero_le _, rfl, Below.refl _ _⟩
              case round =>
                obtain ⟨q, hq, rfl, hbr⟩ := hrel
                by_cases hqj : q < j
                · have e0 := fun x : Cl W6 => x.cell (HL6.out.wnx q hqj)
                  have e1 := fun x : Cl W6 => x.cell (HL6.out.wog q hqj)
                  have e2 := fun x : Cl W6 => x.cell (HL6.out.wit q hqj)
                  have g0 := fun x : Cl W6 => x.cell (HL6.out.gnx q hqj)
                  have g1 := fun x : Cl W6 => x.cell (HL6.out.gog q hqj)
                  have g2 := fun x : Cl W6 => x.cell (HL6.out.git q hqj)
                  go_wp2_with fail
                  refine wp_region_cls (W := W6) (by kernel_rfl) (by kernel_rfl) hbr ?_
                  repeat (go_big_quiet_step (fail))
                  refine wpQuiet_nil ?_
                  intro wn hwn
                  obtain ⟨x, rfl⟩ := hwn
                  clear e0 e1 e2 g0 g1 g2
                  go_wp2
                  go_roundw
                  case rel => exact ⟨q + 1, by omega, by go_num, x.h⟩
                  case measure => simp [intOf]; omega
                · obtain ⟨u7, hu7⟩ : ∃ u, u = wr := ⟨_, rfl⟩
                  subst hu7
                  have hbw7 : Below w.heap.size w u7 := hbw6.trans (hbr.mono hbw6.size)
                  have HL7 : Hid (Lay u7 w.heap.size u1.heap.size w1.heap.size u2.heap.size (u2.heap.size + 1) u3.heap.size w3.heap.size j s ex ph ow nx zo) := HL6.out.below hbr
                  clear hne l1 HL6 hbw6 hbr
                  have m1 := HL7.out.tvar
                  have m2 := HL7.out.nph s HL7.out.sl
                  have hsl := HL7.out.sl
                  go_upto_region 38 with fail
                  go_cut [37] from 194 to 210 (fun c wx => c = .bool (mbB kd rb sd (ph s)) ∧ wx = u7)
                  case first =>
                    cases kd
                    · cases rb
                      · cases sd
                        · cases hp : ph s
                          all_goals
                            rw [hp] at m2
                            go_wp2
                            go_meet
                            exact ⟨by simp [mbB, hp], rfl⟩
                        · go_wp2
                          go_meet
                          exact ⟨by simp [mbB], rfl⟩
                      · go_wp2
                        go_meet
                        exact ⟨by simp [mbB], rfl⟩
                    · go_wp2
                      go_meet
                      exact ⟨by simp [mbB], rfl⟩
                  case rest =>
                    obtain ⟨rfl, hwc⟩ := hcut
                    have HL8 : Hid (Lay wc w.heap.size u1.heap.size w1.heap.size u2.heap.size (u2.heap.size + 1) u3.heap.size w3.heap.size j s ex ph ow nx zo) := by rw [hwc]; exact HL7
                    have hbw8 : Below w.heap.size w wc := by rw [hwc]; exact hbw7
                    clear hwc HL7 hbw7 m1 m2
                    have hne : Nonempty (Cl wc) := ⟨⟨wc, Below.refl _ _⟩⟩
                    have l1 := fun x : Cl wc => x.cell HL8.out.qvar
                    have l2 := fun x : Cl wc => x.cell HL8.out.svar
                    have l3 := fun x : Cl wc => x.cell (HL8.out.gnx kk hkj)
                    have l4 := fun x : Cl wc => x.cell (HL8.out.sow (nx kk) (HL8.out.nxl kk))
                    have l5 : ((nx kk : Nat) : Int) < 4 := by have := HL8.out.nxl kk; omega
                    go_wp2_with fail
                    refine wp_region_cls (W := wc) (by kernel_rfl) (by kernel_rfl) (Below.refl _ _) ?_
                    repeat (go_big_quiet_step (fail))
                    refine wpQuiet_nil ?_
                    intro wn hwn
                    obtain ⟨x, hx8⟩ := hwn
                    have HL9 : Hid (Lay wn w.heap.size u1.heap.size w1.heap.size u2.heap.size (u2.heap.size + 1) u3.heap.size w3.heap.size j s ex ph ow nx zo) := by rw [hx8]; exact HL8.out.below x.h
                    have hbw9 : Below w.heap.size w wn := by rw [hx8]; exact hbw8.trans (x.h.mono hbw8.size)
                    clear hx8 x hne l1 l2 l3 l4 HL8 hbw8
                    have o1 := HL9.out.nex (ow (nx kk)) (HL9.out.owl _)
                    have o2 : ((ow (nx kk) : Nat) : Int) < 3 := by have := HL9.out.owl (nx kk); omega
                    cases hmb : mbB kd rb sd (ph s)
                    · obtain rfl : r = kk + 1 := by
                        rcases HRE.out with ⟨_, hr⟩ | ⟨hone, _⟩
                        · exact hr
                        · simp [oneB, hmb] at hone
                      go_wp2
                      go_ret
                      exact ⟨by simp, hbw9⟩
                    · cases hex : decide (0 ≤ ex (ow (nx kk)))
                      · cases hsg : sgB (zo kk) (ow (nx kk)) s
                        · obtain ⟨r1, r2, r3, r4⟩ : kk + 1 ≤ r ∧ (r ≤ tt ∨ r = kk + 1) ∧ Hid (∀ j, kk + 1 ≤ j → j < r → goB ow nx zo s kk j = true) ∧ Hid (r < tt → goB ow nx zo s kk r = false) := by
                            rcases HRE.out with ⟨hone, _⟩ | ⟨_, h⟩
                            · simp [oneB, hmb, hex, hsg] at hone
                            · exact h
                          by_cases htk : tt ≤ kk + 1
                          · have htk' : decide ((tt : Int) ≤ (kk : Int) + 1) = true := by simp; omega
                            have hrk : ((r : Int) == (kk : Int) + 1) = true := by simp; omega
                            go_wp2_with (go_at_call 7; refine (law_w HL9.out hn hkj hsg).mono ?_; rintro e w10 ⟨rfl, hb10⟩)
                            go_ret
                            exact ⟨rfl, hbw9.trans (hb10.mono hbw9.size)⟩
                          · have htk' : decide ((tt : Int) ≤ (kk : Int) + 1) = false := by simp; omega
                            have hr1 : decide ((r : Int) ≤ (kk : Int)) = false := by simp; omega
                            have hr2 : decide ((tt : Int) < (r : Int)) = false := by simp; omega
                            have hrt : r ≤ tt := by omega
                            go_wp2_with (go_at_call 7; refine (law_w HL9.out hn hkj hsg).mono ?_; rintro e w10 ⟨rfl, hb10⟩)
                            have HLa : Hid (Lay w10 w.heap.size u1.heap.size w1.heap.size u2.heap.size (u2.heap.size + 1) u3.heap.size w3.heap.size j s ex ph ow nx zo) := HL9.out.below hb10
                            have hbwa : Below w.heap.size w w10 := hbw9.trans (hb10.mono hbw9.size)
                            clear HL9 hbw9 hb10 o1 htk' hr1 hr2 hex hmb
                            have hne : Nonempty (Cl w10) := ⟨⟨w10, Below.refl _ _⟩⟩
                            have l1 := fun x : Cl w10 => x.cell HLa.out.qvar
                            have l3 := fun x : Cl w10 => x.cell (HLa.out.gnx kk hkj)
                            go_loopw [39] (fun v wq => ∃ i : Nat, kk + 1 ≤ i ∧ i ≤ r ∧ v = .int .i32 i ∧ Below w10.heap.size w10 wq) (fun v _ => r - (intOf v).toNat)
                            case atStart => exact ⟨kk + 1, Nat.le_refl _, r1, by go_num, Below.refl _ _⟩
                            case round =>
                              obtain ⟨i, hi1, hi2, rfl, hbr⟩ := hrel
                              by_cases hir : i < r
                              · have hij : i < j := by omega
                                have hgo := r3.out i hi1 hir
                                simp only [goB, Bool.and_eq_true, beq_iff_eq, Bool.not_eq_true'] at hgo
                                obtain ⟨hg1, hg2⟩ := hgo
                                have hsgi : sgB (zo i) (ow (nx i)) s = false := by rw [hg1]; exact hg2
                                have hne1 : ((nx i : Int) != (nx kk : Int)) = false := by rw [hg1]; simp
                                have l4 := fun x : Cl w10 => x.cell (HLa.out.gnx i hij)
                                clear hg1 hg2
                                go_wp2_with fail
                                refine wp_region_cls (W := w10) (by kernel_rfl) (by kernel_rfl) hbr ?_
                                repeat (go_big_quiet_step ((go_at_call 7; exact law_cl HLa.out hn hij hsgi _)))
                                refine wpQuiet_nil ?_
                                intro wn hwn
                                obtain ⟨x, rfl⟩ := hwn
                                clear l4
                                go_wp2
                                go_roundw
                                case rel => exact ⟨i + 1, by omega, by omega, by go_num, x.h⟩
                                case measure => simp [intOf]; omega
                              · obtain rfl : i = r := by omega
                                by_cases hrt2 : i < tt
                                · have hd : decide ((i : Int) < (tt : Int)) = true := by simp; omega
                                  have hij : i < j := by omega
                                  have l4 := fun x : Cl w10 => x.cell (HLa.out.gnx i hij)
                                  have hgo := r4.out hrt2
                                  cases hnx : ((nx i : Int) == (nx kk : Int))
                                  · go_wp2_with fail
                                    refine wp_region_cls (W := w10) (by kernel_rfl) (by kernel_rfl) hbr ?_
                                    repeat (go_big_quiet_step (fail))
                                    refine wpQuiet_nil ?_
                                    intro wn hwn
                                    obtain ⟨x, rfl⟩ := hwn
                                    go_wp2
                                    go_ret
                                    exact ⟨rfl, hbwa.trans (x.h.mono hbwa.size)⟩
                                  · have hnx' : nx i = nx kk := by simp at hnx; omega
                                    have hsgi : sgB (zo i) (ow (nx i)) s = true := by
                                      rw [hnx']
                                      simpa [goB, hnx'] using hgo
                                    clear hnx' hgo
                                    go_wp2_with fail
                                    refine wp_region_cls (W := w10) (by kernel_rfl) (by kernel_rfl) hbr ?_
                                    repeat (go_big_quiet_step ((go_at_call 7; exact law_cl HLa.out hn hij hsgi _)))
                                    refine wpQuiet_nil ?_
                                    intro wn hwn
                                    obtain ⟨x, rfl⟩ := hwn
                                    go_wp2
                                    go_ret
                                    exact ⟨rfl, hbwa.trans (x.h.mono hbwa.size)⟩
                                · have hd : decide ((i : Int) < (tt : Int)) = false := by simp; omega
                                  go_wp2
                                  go_ret
                                  exact ⟨rfl, hbwa.trans (hbr.mono hbwa.size)⟩
                        · obtain rfl : r = kk + 1 := by
                            rcases HRE.out with ⟨_, hr⟩ | ⟨hone, _⟩
                            · exact hr
                            · simp [oneB, hmb, hsg] at hone
                          go_wp2_with (go_at_call 7; refine (law_w HL9.out hn hkj hsg).mono ?_; rintro e w10 ⟨rfl, hb10⟩)
                          go_ret
                          exact ⟨by simp, hbw9.trans (hb10.mono hbw9.size)⟩
                      · obtain rfl : r = kk + 1 := by
                          rcases HRE.out with ⟨_, hr⟩ | ⟨hone, _⟩
                          · exact hr
                          · simp [oneB, hmb, hex] at hone
                        go_wp2
                        go_ret
                        exact ⟨by simp, hbw9⟩

end Go.Proofs.Ybulkbprc
