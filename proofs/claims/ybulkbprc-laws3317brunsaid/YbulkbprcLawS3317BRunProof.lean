/-
  The proof of 'Rows.LawS3317BRunSaid', typed after the frame that the kit's skeleton tool writes for the seat's other laws.
-/
import Derived.Test.YbulkbprcRows
import Derived.WalkKit
import Derived.ProofKit
import Derived.OpenShut
import Derived.ShutString
import Derived.ChangeOld
import Derived.Below
import Derived.Deep.SlicePairs
import Derived.Test.YbulkbprcRunC
namespace Go.Proofs.Ybulkbprc.lawS3317BRun
open Go.ChangeShapes Go.WideShapes Go.ChangeAt Go.RowKit
open Go.Deep (open_slice1 open_slice_pairs choose_lt)
set_option linter.unusedVariables false

theorem own : ownKnob Yba.prog.godebug = none := by kernel_rfl
theorem laidOut : laidOutB Yba.prog = true := by kernel_rfl

/-- a plain address, from one cell that is there -/
theorem plain_at {w : World} {x : Addr} {v : Value} (h : w.cell? x = some v) : ∃ b off, x = ⟨b, off, none⟩ := by
  obtain ⟨b, off, spot⟩ := x
  have hspot : spot = none := by simpa using World.cell?_spot h
  subst hspot
  exact ⟨b, off, rfl⟩

/-- a slice of integers that came in, as the walk is told of it -/
theorem ints_row {H : Type} {enc : TypeId × Value → H} {W : World} {t e : TypeId} {k : IntKind} {a : Option Addr} {len cap : Nat} {d : DataW H} {p : List MemPlace} (ht : Yba.prog.underlying t = some (.slice e)) (he : Yba.prog.underlying e = some (.int k)) (hc : Yba.prog.cellsOf e = 1)
    (h : DataW.Trod enc Yba.prog W 0 (fun _ => true) true t (.slice a len cap) d p) : len ≤ maxLen ∧ ∃ zs : List Int, Row1 W a len (fun i => .int k (zs.getD i 0)) ∧ ∀ n ∈ zs, (Lit.int k n).wf = true := by
  obtain ⟨fuel, hf⟩ := h
  rcases open_ints ht he hc hf with ⟨hcs, _⟩ | ⟨x, l, c, zs, hcs, _, hl, hm, hz, _, hcell, hwz⟩
  · simp [Value.cells] at hcs
    obtain ⟨rfl, rfl, rfl⟩ := hcs
    exact ⟨Nat.zero_le _, [], Or.inl rfl, fun n hn => by cases hn⟩
  · simp [Value.cells] at hcs
    obtain ⟨rfl, rfl, rfl⟩ := hcs
    have hz' : zs.length = cap := by simpa using hz
    refine ⟨Nat.le_trans hl hm, zs, ?_, hwz⟩
    by_cases h0 : len = 0
    · exact Or.inl h0
    · obtain ⟨b, off, rfl, hc'⟩ := ints_at hcell (by omega)
      exact Or.inr ⟨b, off, rfl, World.block_lt_of_cell? W _ (hc' 0 (by omega)), fun i hi => hc' i (by omega)⟩

theorem bools_row {H : Type} {enc : TypeId × Value → H} {W : World} {a : Option Addr} {len cap : Nat} {d : DataW H} {p : List MemPlace}
    (h : DataW.Trod enc Yba.prog W 0 (fun _ => true) true 25 (.slice a len cap) d p) : len ≤ maxLen ∧ ∃ z : Nat → Bool, Row1 W a len (fun i => .bool (z i)) := by
  obtain ⟨fuel, hf⟩ := h
  rcases open_slice1 Yba.underlying25 (by kernel_rfl) hf with ⟨hcs, _⟩ | ⟨x, l, c, m, n, V, D, Pl, hcs, _, hl, hm, hmm, _, hx⟩
  · simp [Value.cells] at hcs
    obtain ⟨rfl, rfl, rfl⟩ := hcs
    exact ⟨Nat.zero_le _, fun _ => false, Or.inl rfl⟩
  · simp [Value.cells] at hcs
    obtain ⟨rfl, rfl, rfl⟩ := hcs
    simp at hmm
    subst hmm
    refine ⟨Nat.le_trans hl hm, ?_⟩
    by_cases h0 : len = 0
    · exact ⟨fun _ => false, Or.inl h0⟩
    · obtain ⟨z, hz⟩ := choose_lt (α := Bool) (n := len) (p := fun i b => W.cell? (x.add i) = some (.bool b)) (fun i hi => by
        obtain ⟨h1, h2⟩ := hx i (by omega)
        obtain ⟨b, hb, _⟩ := DataW.trod_bool Yba.underlying4 h2
        simp at hb
        exact ⟨b, by rw [h1, hb]⟩)
      have hz0 := hz 0 (by omega)
      obtain ⟨b, off, e⟩ := plain_at (by simpa [Addr.add] using hz0 : W.cell? x = some (.bool (z 0)))
      subst e
      have hadd : ∀ i, (⟨b, off, none⟩ : Addr).add i = ⟨b, off + i, none⟩ := fun i => Go.WideShapes.add_plain b off i
      exact ⟨z, Or.inr ⟨b, off, rfl, World.block_lt_of_cell? W _ (hz 0 (by omega)), fun i hi => by rw [← hadd]; exact hz i hi⟩⟩

theorem pairs_row {H : Type} {enc : TypeId × Value → H} {W : World} {a : Option Addr} {len cap : Nat} {d : DataW H} {p : List MemPlace}
    (h : DataW.Trod enc Yba.prog W 0 (fun _ => true) true 22 (.slice a len cap) d p) : len = 0 ∨ ∃ (bx ox : Nat) (zn zo : Nat → Int), a = some ⟨bx, ox, none⟩ ∧ bx < W.heap.size ∧ (∀ i, i < len → W.cell? ⟨bx, ox + i * 2, none⟩ = some (.int .u8 (zn i))) ∧
      (∀ i, i < len → W.cell? ⟨bx, ox + i * 2 + 1, none⟩ = some (.int .i8 (zo i))) ∧ (∀ i, 0 ≤ zn i ∧ zn i ≤ 255) ∧ ∀ i, -128 ≤ zo i ∧ zo i ≤ 127 := by
  obtain ⟨fuel, hf⟩ := h
  rcases open_slice_pairs Yba.underlying22 Yba.underlying42 (by kernel_rfl) rfl rfl (by kernel_rfl) (by kernel_rfl) hf with ⟨hcs, _⟩ | ⟨x, l, c, m, n, V0, V1, D0, D1, P0, P1, hcs, _, hl, hm, hmm, _, hx⟩
  · simp [Value.cells] at hcs
    exact Or.inl hcs.2.1
  · simp [Value.cells] at hcs
    obtain ⟨rfl, rfl, rfl⟩ := hcs
    simp at hmm
    subst hmm
    by_cases h0 : len = 0
    · exact Or.inl h0
    · right
      have hx1 : ∀ i, i < len → ∃ z : Int, W.cell? (x.add (i * 2)) = some (.int .u8 z) ∧ 0 ≤ z ∧ z ≤ 255 := fun i hi => by
        obtain ⟨h1, h2, h3, h4⟩ := hx i (by omega)
        obtain ⟨z, hz, _, hw⟩ := DataW.trod_int Yba.underlying5 h3
        simp at hz
        exact ⟨z, by rw [h1, hz], bounds_u8 hw⟩
      have hx2 : ∀ i, i < len → ∃ z : Int, W.cell? (x.add (i * 2 + 1)) = some (.int .i8 z) ∧ -128 ≤ z ∧ z ≤ 127 := fun i hi => by
        obtain ⟨h1, h2, h3, h4⟩ := hx i (by omega)
        obtain ⟨z, hz, _, hw⟩ := DataW.trod_int Yba.underlying35 h4
        simp at hz
        exact ⟨z, by rw [h2, hz], bounds_i8 hw⟩
      obtain ⟨zn, hzn⟩ := choose_lt hx1
      obtain ⟨zo, hzo⟩ := choose_lt hx2
      have hz0 := (hzn 0 (by omega)).1
      obtain ⟨b, off, e⟩ := plain_at (by simpa [Addr.add] using hz0 : W.cell? x = some (.int .u8 (zn 0)))
      subst e
      have hadd : ∀ i, (⟨b, off, none⟩ : Addr).add i = ⟨b, off + i, none⟩ := fun i => Go.WideShapes.add_plain b off i
      refine ⟨b, off, fun i => if i < len then zn i else 0, fun i => if i < len then zo i else 0, rfl, World.block_lt_of_cell? W _ hz0, fun i hi => ?_, fun i hi => ?_, fun i => ?_, fun i => ?_⟩
      · simp only [hi, if_true]; rw [← hadd]; exact (hzn i hi).1
      · simp only [hi, if_true]; rw [Nat.add_assoc, ← hadd]; exact (hzo i hi).1
      · by_cases hi : i < len
        · simp only [hi, if_true]; exact (hzn i hi).2
        · simp [hi]
      · by_cases hi : i < len
        · simp only [hi, if_true]; exact (hzo i hi).2
        · simp [hi]

theorem wf_getD {k : IntKind} {zs : List Int} (h : ∀ n ∈ zs, (Lit.int k n).wf = true) (h0 : (Lit.int k 0).wf = true) (i : Nat) : (Lit.int k (zs.getD i 0)).wf = true := by
  by_cases hi : i < zs.length
  · have : zs.getD i 0 = zs[i] := by simp [List.getD, hi]
    rw [this]; exact h _ (List.getElem_mem hi)
  · have : zs.getD i 0 = 0 := by simp [List.getD, hi]
    rw [this]; exact h0

/-! ### the walk, at whatever waits -/
set_option maxRecDepth 100000 in
theorem walk (a0 : Option Addr) (len0 cap0 : Nat) (a1 : Option Addr) (n1 c1 : Nat) (z1 : List Int) (a2 : Option Addr) (n2 c2 : Nat) (z2 : List Int) (a3 : Option Addr) (n3 c3 : Nat) (z3 : Nat → Bool) (st : Int) (sd kd rb : Bool) (kr tr : Int) (w : World)
    (h0 : len0 = 0 ∨ ∃ (bx ox : Nat) (zn zo : Nat → Int), a0 = some ⟨bx, ox, none⟩ ∧ bx < w.heap.size ∧ (∀ i, i < len0 → w.cell? ⟨bx, ox + i * 2, none⟩ = some (.int .u8 (zn i))) ∧ (∀ i, i < len0 → w.cell? ⟨bx, ox + i * 2 + 1, none⟩ = some (.int .i8 (zo i))) ∧ (∀ i, 0 ≤ zn i ∧ zn i ≤ 255) ∧ ∀ i, -128 ≤ zo i ∧ zo i ≤ 127)
    (h1 : Row1 w a1 n1 (fun i => .int .u8 (z1.getD i 0))) (hz1 : ∀ n ∈ z1, (Lit.int .u8 n).wf = true) (h2 : Row1 w a2 n2 (fun i => .int .i8 (z2.getD i 0))) (hz2 : ∀ n ∈ z2, (Lit.int .i8 n).wf = true) (h3 : Row1 w a3 n3 (fun i => .bool (z3 i)))
    (hl1 : n1 ≤ maxLen) (hl2 : n2 ≤ maxLen) (hl3 : n3 ≤ maxLen) (w4 : (Lit.int .u8 st).wf = true) (w8 : (Lit.int .u16 kr).wf = true) (w9 : (Lit.int .u16 tr).wf = true) :
    Calls Yba.prog 3 #[.slice a0 len0 cap0, .slice a1 n1 c1, .slice a2 n2 c2, .slice a3 n3 c3, .int .u8 st, .bool sd, .bool kd, .bool rb, .int .u16 kr, .int .u16 tr] w fun e w' => e = .returned (.bool true) ∧ Below w.heap.size w w' := by
  by_cases hz : len0 = 0
  · subst hz
    clear h0 h1 h2 h3 hl1 hl2 hl3 hz1 hz2
    go_enter Yba.func3, Yba.ntmps3
    go_wp2
    go_ret
    exact ⟨rfl, Below.refl _ _⟩
  · by_cases hg : 1024 < len0
    · have hd : decide ((1024 : Int) < (len0 : Int)) = true := by simp; omega
      clear h0 h1 h2 h3 hl1 hl2 hl3 hz1 hz2
      go_enter Yba.func3, Yba.ntmps3
      go_wp2
      go_ret
      exact ⟨rfl, Below.refl _ _⟩
    · rcases h0 with h0 | ⟨bx, ox, zn, zo, rfl, hx, hxn, hxo, hzn, hzo⟩
      · exact absurd h0 hz
      · exact brun_walk bx ox len0 cap0 zn zo a1 n1 c1 (fun i => z1.getD i 0) a2 n2 c2 (fun i => z2.getD i 0) a3 n3 c3 z3 st sd kd rb kr tr w (by omega) (by omega) hx hxn hxo hzn hzo h1 (fun i => bounds_u8 (wf_getD hz1 rfl i)) h2 (fun i => bounds_i8 (wf_getD hz2 rfl i)) h3
          hl1 hl2 hl3 (bounds_u8 w4).1 (bounds_u8 w4).2 (bounds_u16 w8).1 (bounds_u16 w8).2 (bounds_u16 w9).1 (bounds_u16 w9).2

/-! ### THE ROW's STEP: WRITTEN OUT: LEAVE IT -/
set_option maxRecDepth 100000 in
theorem lifted (os : Os) (started : os.Started) (H : Type) (enc : TypeId × Value → H) :
    ReturnsInHanded {} Yba.checked os 3 .any (Rows.lawS3317BRunSpec.pre6 enc Yba.prog Yba.f3 Rows.lawS3317BRunRow.domain false) (Rows.lawS3317BRunSpec.post enc Yba.prog Yba.f3 false true false false) := by
  refine returnsInHanded_of_change (C := Yba.checked) own started (by kernel_rfl) Yba.func3
    (ChangeSpec.witness6 (enc := enc) (C := Yba.checked) false ⟨#[], #[.slice none 0 0, .slice none 0 0, .slice none 0 0, .slice none 0 0, .int .u8 0, .bool false, .bool false, .bool false, .int .u16 0, .int .u16 0], []⟩ 8 (by kernel_rfl) (by kernel_rfl) (by kernel_rfl) (by kernel_rfl)) ?_
  intro W base args ds gs before hval0 hW hcnd _
  have hval : ∀ (j : Nat) t v, Yba.f3.params[j]? = some t → args[j]? = some v → Value.okWide Yba.prog W .any base t v := hval0
  have hW' := hW
  obtain ⟨p, q, hA0, hV, rfl, hfz, hnd⟩ := hW
  have hA : DataW.TrodAll enc Yba.prog W 0 (fun _ => true) true Yba.f3.params.toList args.toList ds p := hA0
  rw [Yba.params3] at hA hval
  obtain ⟨v0, vs0, d0, ds0, p0, q0, hargs, rfl, rfl, h0, r0⟩ := trodAll_cons hA
  obtain ⟨v1, vs1, d1, ds1, p1, q1, rfl, rfl, rfl, h1, r1⟩ := trodAll_cons r0
  obtain ⟨v2, vs2, d2, ds2, p2, q2, rfl, rfl, rfl, h2, r2⟩ := trodAll_cons r1
  obtain ⟨v3, vs3, d3, ds3, p3, q3, rfl, rfl, rfl, h3, r3⟩ := trodAll_cons r2
  obtain ⟨v4, vs4, d4, ds4, p4, q4, rfl, rfl, rfl, h4, r4⟩ := trodAll_cons r3
  obtain ⟨v5, vs5, d5, ds5, p5, q5, rfl, rfl, rfl, h5, r5⟩ := trodAll_cons r4
  obtain ⟨v6, vs6, d6, ds6, p6, q6, rfl, rfl, rfl, h6, r6⟩ := trodAll_cons r5
  obtain ⟨v7, vs7, d7, ds7, p7, q7, rfl, rfl, rfl, h7, r7⟩ := trodAll_cons r6
  obtain ⟨v8, vs8, d8, ds8, p8, q8, rfl, rfl, rfl, h8, r8⟩ := trodAll_cons r7
  obtain ⟨v9, vs9, d9, ds9, p9, q9, rfl, rfl, rfl, h9, r9⟩ := trodAll_cons r8
  obtain ⟨rfl, rfl, rfl⟩ := trodAll_nil r9
  obtain rfl : args = #[v0, v1, v2, v3, v4, v5, v6, v7, v8, v9] := by cases args; simp_all
  obtain ⟨rfl, rfl⟩ := trodVars_none hV
  obtain ⟨a0, len0, cap0, rfl⟩ := okWide_slice Yba.underlying22 (hval 0 22 v0 rfl rfl)
  have k0 := h0
  have lt0 : ∀ x ∈ p0, x.block < W.heap.size := by obtain ⟨m, hm⟩ := k0; exact DataW.trod_lt m _ _ _ hm
  obtain ⟨a1, len1, cap1, rfl⟩ := okWide_slice Yba.underlying23 (hval 1 23 v1 rfl rfl)
  have k1 := h1
  have lt1 : ∀ x ∈ p1, x.block < W.heap.size := by obtain ⟨m, hm⟩ := k1; exact DataW.trod_lt m _ _ _ hm
  obtain ⟨a2, len2, cap2, rfl⟩ := okWide_slice Yba.underlying24 (hval 2 24 v2 rfl rfl)
  have k2 := h2
  have lt2 : ∀ x ∈ p2, x.block < W.heap.size := by obtain ⟨m, hm⟩ := k2; exact DataW.trod_lt m _ _ _ hm
  obtain ⟨a3, len3, cap3, rfl⟩ := okWide_slice Yba.underlying25 (hval 3 25 v3 rfl rfl)
  have k3 := h3
  have lt3 : ∀ x ∈ p3, x.block < W.heap.size := by obtain ⟨m, hm⟩ := k3; exact DataW.trod_lt m _ _ _ hm
  have e0 := pairs_row h0
  obtain ⟨hl1, z1, e1, hz1⟩ := ints_row Yba.underlying23 Yba.underlying5 (by kernel_rfl) h1
  obtain ⟨hl2, z2, e2, hz2⟩ := ints_row Yba.underlying24 Yba.underlying35 (by kernel_rfl) h2
  obtain ⟨hl3, z3, e3⟩ := bools_row h3
  obtain ⟨a4, rfl, rfl, rfl, w4⟩ := open_int Yba.underlying5 (hval 4 5 v4 rfl rfl) h4
  obtain ⟨a5, rfl, rfl, rfl⟩ := open_bool Yba.underlying4 (hval 5 4 v5 rfl rfl) h5
  obtain ⟨a6, rfl, rfl, rfl⟩ := open_bool Yba.underlying4 (hval 6 4 v6 rfl rfl) h6
  obtain ⟨a7, rfl, rfl, rfl⟩ := open_bool Yba.underlying4 (hval 7 4 v7 rfl rfl) h7
  obtain ⟨a8, rfl, rfl, rfl, w8⟩ := open_int Yba.underlying26 (hval 8 26 v8 rfl rfl) h8
  obtain ⟨a9, rfl, rfl, rfl, w9⟩ := open_int Yba.underlying26 (hval 9 26 v9 rfl rfl) h9
  clear hA0 hval0
  refine (walk a0 len0 cap0 a1 len1 cap1 z1 a2 len2 cap2 z2 a3 len3 cap3 z3 a4 a5 a6 a7 a8 a9 W e0 e1 hz1 e2 hz2 e3 hl1 hl2 hl3 w4 w8 w9).mono fun e W' ⟨he, bel⟩ => ?_
  subst he
  exact ⟨_, rfl, _, _, _, [], _, [], hW', trodAll_mk1 (shut_bool Yba.underlying4 _), (trodAll_cons_mk (Below.trod laidOut (by kernel_rfl) (of_decide_eq_true (by kernel_rfl)) k0 bel lt0) (trodAll_cons_mk (Below.trod laidOut (by kernel_rfl) (of_decide_eq_true (by kernel_rfl)) k1 bel lt1) (trodAll_cons_mk (Below.trod laidOut (by kernel_rfl) (of_decide_eq_true (by kernel_rfl)) k2 bel lt2) (trodAll_cons_mk (Below.trod laidOut (by kernel_rfl) (of_decide_eq_true (by kernel_rfl)) k3 bel lt3) (trodAll_cons_mk (shut_int Yba.underlying5 w4) (trodAll_cons_mk (shut_bool Yba.underlying4 _) (trodAll_cons_mk (shut_bool Yba.underlying4 _) (trodAll_cons_mk (shut_bool Yba.underlying4 _) (trodAll_cons_mk (shut_int Yba.underlying26 w8) (trodAll_cons_mk (shut_int Yba.underlying26 w9) trodAll_mk0)))))))))), rfl, bel.frame _, fun h => by cases h⟩

theorem over : Rows.lawS3317BRunRow.holds Yba.pinned (OpenSpec.ofChange Rows.lawS3317BRunSpec) :=
  OpenClaim.holds_of_wide 3 Yba.f3 rfl rfl rfl rfl rfl rfl rfl ⟨rfl, rfl, rfl, rfl, rfl⟩ rfl rfl rfl rfl rfl (by kernel_rfl) Yba.func3 (by kernel_rfl)
    (of_decide_eq_true (by kernel_rfl)) (by unfold Func.isWrapper; first | (rw [if_pos (by decide +kernel)]; kernel_rfl) | (rw [if_neg (by decide +kernel)]; exact ⟨rfl, rfl⟩))
    (fun os started H enc _ => lifted os started H enc)

/-- ████ THE STATEMENT ████ -/
theorem proved : Rows.LawS3317BRunSaid := over
#print axioms proved
end Go.Proofs.Ybulkbprc.lawS3317BRun

namespace Go.Proofs.Ybulkbprc
theorem lawS3317BRun_proved : Rows.LawS3317BRunSaid := lawS3317BRun.proved
end Go.Proofs.Ybulkbprc
