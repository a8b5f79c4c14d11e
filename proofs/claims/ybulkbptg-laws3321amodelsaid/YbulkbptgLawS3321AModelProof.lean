/-
  The proof of 'Rows.LawS3321AModelSaid', typed after the frame that the kit's skeleton tool writes for the seat's other laws.
-/
import Derived.Test.YbulkbptgRows
import Derived.WalkKit
import Derived.ProofKit
import Derived.OpenShut
import Derived.ChangeOld
import Derived.Below
import Derived.Test.YbulkbptgWords
namespace Go.Proofs.Ybulkbptg.lawS3321AModel
open Go.ChangeShapes Go.WideShapes Go.ChangeAt Go.RowKit
set_option linter.unusedVariables false

theorem own : ownKnob Yba.prog.godebug = none := by kernel_rfl
theorem laidOut : laidOutB Yba.prog = true := by kernel_rfl

theorem array8 {α : Type} {cs : Array α} (h : cs.size = 8) : ∃ c0 c1 c2 c3 c4 c5 c6 c7, cs = #[c0, c1, c2, c3, c4, c5, c6, c7] := by
  obtain ⟨l⟩ := cs
  match l, h with
  | [c0, c1, c2, c3, c4, c5, c6, c7], _ => exact ⟨c0, c1, c2, c3, c4, c5, c6, c7, rfl⟩

/-- the struct of eight fields that came in by value -/
theorem open_ov {H : Type} {enc : TypeId × Value → H} {W : World} {b0 : Nat} {v : Value} {d : DataW H} {p : List MemPlace} (hv : Value.okWide Yba.prog W .any b0 24 v) (h : DataW.Trod enc Yba.prog W 0 (fun _ => true) true 24 v d p) :
    ∃ (sm hr ht : Bool) (low high e8 t8 m8 : Int), v = .agg #[.bool sm, .bool hr, .int .i32 low, .int .i32 high, .int .u8 e8, .bool ht, .int .u8 t8, .int .i8 m8] ∧
      (-2147483648 ≤ low ∧ low ≤ 2147483647) ∧ (-2147483648 ≤ high ∧ high ≤ 2147483647) ∧ (0 ≤ e8 ∧ e8 ≤ 255) ∧ (0 ≤ t8 ∧ t8 ≤ 255) ∧ (-128 ≤ m8 ∧ m8 ≤ 127) := by
  obtain ⟨cs, rfl, hsz⟩ := okWide_struct Yba.underlying24 hv
  obtain ⟨c0, c1, c2, c3, c4, c5, c6, c7, rfl⟩ := array8 (hsz.trans (by kernel_rfl))
  obtain ⟨fuel, hf⟩ := h
  obtain ⟨xs, n, _, _, hl, hlen, hx⟩ := DataW.trod_struct Yba.underlying24 hf
  have z4 : Yba.prog.cellsOf 4 = 1 := by kernel_rfl
  have z5 : Yba.prog.cellsOf 5 = 1 := by kernel_rfl
  have z21 : Yba.prog.cellsOf 21 = 1 := by kernel_rfl
  have z22 : Yba.prog.cellsOf 22 = 1 := by kernel_rfl
  match xs, hlen with
  | [y0, y1, y2, y3, y4, y5, y6, y7], _ =>
    have h0 := hx 0 _ rfl
    have h1 := hx 1 _ rfl
    have h2 := hx 2 _ rfl
    have h3 := hx 3 _ rfl
    have h4 := hx 4 _ rfl
    have h5 := hx 5 _ rfl
    have h6 := hx 6 _ rfl
    have h7 := hx 7 _ rfl
    simp [Value.cells, z4, z5, z21, z22] at h0 h1 h2 h3 h4 h5 h6 h7
    obtain ⟨b0', e0, _⟩ := DataW.trod_bool Yba.underlying4 h0
    obtain ⟨b1', e1, _⟩ := DataW.trod_bool Yba.underlying4 h1
    obtain ⟨n2, e2, _, w2⟩ := DataW.trod_int Yba.underlying21 h2
    obtain ⟨n3, e3, _, w3⟩ := DataW.trod_int Yba.underlying21 h3
    obtain ⟨n4, e4, _, w4⟩ := DataW.trod_int Yba.underlying5 h4
    obtain ⟨b5', e5, _⟩ := DataW.trod_bool Yba.underlying4 h5
    obtain ⟨n6, e6, _, w6⟩ := DataW.trod_int Yba.underlying5 h6
    obtain ⟨n7, e7, _, w7⟩ := DataW.trod_int Yba.underlying22 h7
    simp at e0 e1 e2 e3 e4 e5 e6 e7
    subst e0 e1 e2 e3 e4 e5 e6 e7
    exact ⟨_, _, _, _, _, _, _, _, rfl, bounds_i32 w2, bounds_i32 w3, bounds_u8 w4, bounds_u8 w6, bounds_i8 w7⟩

/-! ### THE ROW's STEP: WRITTEN OUT: LEAVE IT -/
set_option maxRecDepth 100000 in
theorem lifted (os : Os) (started : os.Started) (H : Type) (enc : TypeId × Value → H) :
    ReturnsInHanded {} Yba.checked os 3 .any (Rows.lawS3321AModelSpec.pre6 enc Yba.prog Yba.f3 Rows.lawS3321AModelRow.domain false) (Rows.lawS3321AModelSpec.post enc Yba.prog Yba.f3 false true false false) := by
  refine returnsInHanded_of_change (C := Yba.checked) own started (by kernel_rfl) Yba.func3
    (ChangeSpec.witness6 (enc := enc) (C := Yba.checked) false ⟨#[], #[.int .i32 0, .int .i32 0, .int .i32 0, .agg #[.bool false, .bool false, .int .i32 0, .int .i32 0, .int .u8 0, .bool false, .int .u8 0, .int .i8 0]], []⟩ 8 (by kernel_rfl) (by kernel_rfl) (by kernel_rfl) (by kernel_rfl)) ?_
  intro W base args ds gs before hval0 hW hcnd _
  have hval : ∀ (j : Nat) t v, Yba.f3.params[j]? = some t → args[j]? = some v → Value.okWide Yba.prog W .any base t v := hval0
  have hW' := hW
  obtain ⟨p, q, hA0, hV, rfl, hfz, hnd⟩ := hW
  have hA : DataW.TrodAll enc Yba.prog W 0 (fun _ => true) true Yba.f3.params.toList args.toList ds p := hA0
  rw [Yba.params3] at hA hval
  obtain ⟨v0, vs0, d0, ds0, p0, q0, hargs, rfl, rfl, h0, r0⟩ := trodAll_cons hA
  obtain ⟨v1, vs1, d1, ds1, p1, q1, rfl, rfl, rfl, h1, r1⟩ := trodAll_cons r0
  obtain ⟨v2, vs2, d2, ds2, p2, q2, rfl, rfl, rfl, h2, r2⟩ := trodAll_cons r1
  obtain ⟨v3, vs3, d3, ds3, p3, q3, rfl, rfl, rfl, h3, r3⟩ := trodAll_cons r2
  obtain ⟨rfl, rfl, rfl⟩ := trodAll_nil r3
  obtain rfl : args = #[v0, v1, v2, v3] := by cases args; simp_all
  obtain ⟨rfl, rfl⟩ := trodVars_none hV
  obtain ⟨a0, rfl, rfl, rfl, w0⟩ := open_int Yba.underlying21 (hval 0 21 v0 rfl rfl) h0
  obtain ⟨a1, rfl, rfl, rfl, w1⟩ := open_int Yba.underlying21 (hval 1 21 v1 rfl rfl) h1
  obtain ⟨a2, rfl, rfl, rfl, w2⟩ := open_int Yba.underlying21 (hval 2 21 v2 rfl rfl) h2
  have k3 := h3
  have lt3 : ∀ x ∈ p3, x.block < W.heap.size := by obtain ⟨m, hm⟩ := k3; exact DataW.trod_lt m _ _ _ hm
  obtain ⟨sm, hr, ht, low, high, e8, t8, m8, rfl, b1, b2, b3, b4, b5⟩ := open_ov (hval 3 24 v3 rfl rfl) h3
  clear hA0 hval0
  refine (model_all sm hr ht a0 a1 a2 low high e8 t8 m8 W (bounds_i32 w0) (bounds_i32 w1) (bounds_i32 w2) b1 b2 b3 b4 b5).mono fun e W' ⟨he, bel⟩ => ?_
  subst he
  exact ⟨_, rfl, _, _, _, [], _, [], hW', trodAll_mk1 (shut_bool Yba.underlying4 _), (trodAll_cons_mk (shut_int Yba.underlying21 w0) (trodAll_cons_mk (shut_int Yba.underlying21 w1) (trodAll_cons_mk (shut_int Yba.underlying21 w2) (trodAll_cons_mk (Below.trod laidOut (by kernel_rfl) (of_decide_eq_true (by kernel_rfl)) k3 bel lt3) trodAll_mk0)))), rfl, bel.frame _, fun h => by cases h⟩

theorem over : Rows.lawS3321AModelRow.holds Yba.pinned (OpenSpec.ofChange Rows.lawS3321AModelSpec) :=
  OpenClaim.holds_of_wide 3 Yba.f3 rfl rfl rfl rfl rfl rfl rfl ⟨rfl, rfl, rfl, rfl, rfl⟩ rfl rfl rfl rfl rfl (by kernel_rfl) Yba.func3 (by kernel_rfl)
    (of_decide_eq_true (by kernel_rfl)) (by unfold Func.isWrapper; first | (rw [if_pos (by decide +kernel)]; kernel_rfl) | (rw [if_neg (by decide +kernel)]; exact ⟨rfl, rfl⟩))
    (fun os started H enc _ => lifted os started H enc)

/-- ████ THE STATEMENT ████ -/
theorem proved : Rows.LawS3321AModelSaid := over
#print axioms proved
end Go.Proofs.Ybulkbptg.lawS3321AModel

namespace Go.Proofs.Ybulkbptg
theorem lawS3321AModel_proved : Rows.LawS3321AModelSaid := lawS3321AModel.proved
end Go.Proofs.Ybulkbptg
