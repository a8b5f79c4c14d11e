/-
  Plain mathematics of an open-addressed index: no Go in sight.
-/
namespace Go.Proofs.Ybulkbpss
set_option linter.unusedVariables false

/-- the place j steps behind s, of n places -/
def pos (s n j : Nat) : Nat := if s + j < n then s + j else s + j - n

theorem pos_zero {s n : Nat} (h : s < n) : pos s n 0 = s := by unfold pos; rw [if_pos (by omega)]; rfl
theorem pos_lt {s n j : Nat} (hs : s < n) (hj : j < n) : pos s n j < n := by unfold pos; split <;> omega
theorem pos_next {s n j : Nat} (hs : s < n) (hj : j + 1 < n) : (if pos s n j + 1 = n then 0 else pos s n j + 1) = pos s n (j + 1) := by
  unfold pos
  by_cases h1 : s + j < n
  · rw [if_pos h1]
    by_cases h2 : s + (j + 1) < n
    · rw [if_pos h2, if_neg (by omega)]; omega
    · rw [if_neg h2, if_pos (by omega)]; omega
  · rw [if_neg h1, if_neg (by omega), if_neg (by omega)]; omega
theorem pos_back {s n a : Nat} (hs : s < n) (ha : a < n) : ∃ j, j < n ∧ pos s n j = a := by
  by_cases h : s ≤ a
  · exact ⟨a - s, by omega, by unfold pos; rw [if_pos (by omega)]; omega⟩
  · exact ⟨a + n - s, by omega, by unfold pos; rw [if_neg (by omega)]; omega⟩
/-- how far a lies behind s -/
def dist (s n a : Nat) : Nat := if s ≤ a then a - s else a + n - s
theorem dist_pos {s n j : Nat} (hs : s < n) (hj : j < n) : dist s n (pos s n j) = j := by
  unfold dist pos
  by_cases h1 : s + j < n
  · rw [if_pos h1, if_pos (by omega)]; omega
  · rw [if_neg h1, if_neg (by omega)]; omega

/-- how many of the first n places hold something -/
def cnt (T : Nat → Nat) : Nat → Nat
  | 0 => 0
  | n + 1 => cnt T n + (if T n = 0 then 0 else 1)

theorem cnt_full {T : Nat → Nat} : ∀ n, (∀ a, a < n → T a ≠ 0) → cnt T n = n
  | 0, _ => rfl
  | n + 1, h => by
    have := cnt_full n (fun a ha => h a (by omega))
    simp [cnt, this, h n (by omega)]
theorem cnt_zero {T : Nat → Nat} : ∀ n, (∀ a, a < n → T a = 0) → cnt T n = 0
  | 0, _ => rfl
  | n + 1, h => by
    have := cnt_zero n (fun a ha => h a (by omega))
    simp [cnt, this, h n (by omega)]

def upd (T : Nat → Nat) (a v : Nat) : Nat → Nat := fun b => if b = a then v else T b
theorem upd_same (T : Nat → Nat) (a v : Nat) : upd T a v a = v := by simp [upd]
theorem upd_other {T : Nat → Nat} {a v b : Nat} (h : b ≠ a) : upd T a v b = T b := by simp [upd, h]

theorem cnt_upd_past {T : Nat → Nat} {a v : Nat} : ∀ n, n ≤ a → cnt (upd T a v) n = cnt T n
  | 0, _ => rfl
  | n + 1, h => by
    have := cnt_upd_past (T := T) (a := a) (v := v) n (by omega)
    simp [cnt, this, upd_other (show n ≠ a by omega)]
theorem cnt_upd {T : Nat → Nat} {a v : Nat} (h0 : T a = 0) (hv : v ≠ 0) : ∀ n, a < n → cnt (upd T a v) n = cnt T n + 1
  | 0, h => by omega
  | n + 1, h => by
    by_cases e : a = n
    · subst e
      simp [cnt, cnt_upd_past a (Nat.le_refl _), upd_same, h0, hv]
    · have := cnt_upd h0 hv n (by omega)
      simp [cnt, this, upd_other (show n ≠ a by omega)]
      omega

/-- the index T of n places holds the entries 0 .. i-1, entry e sought first at 'sl e' -/
structure TI (sl : Nat → Nat) (n : Nat) (T : Nat → Nat) (i : Nat) : Prop where
  le : ∀ a, a < n → T a ≤ i
  at' : ∀ e, e < i → ∃ d, d < n ∧ T (pos (sl e) n d) = e + 1 ∧ ∀ d', d' < d → T (pos (sl e) n d') ≠ 0
  cn : cnt T n = i

theorem TI.start {sl : Nat → Nat} {n : Nat} {T : Nat → Nat} (h : ∀ a, a < n → T a = 0) : TI sl n T 0 :=
  ⟨fun a ha => by rw [h a ha]; exact Nat.le_refl _, fun e he => by omega, cnt_zero n h⟩

/-- while there are fewer entries than places, going on from s one comes to an empty place before one is round -/
theorem TI.room {sl : Nat → Nat} {n : Nat} {T : Nat → Nat} {i s j : Nat} (h : TI sl n T i) (hi : i < n) (hs : s < n) (hj : j < n) (hfull : ∀ d, d < j + 1 → T (pos s n d) ≠ 0) : j + 1 < n := by
  by_cases e : j + 1 < n
  · exact e
  · exfalso
    have : cnt T n = n := cnt_full n (fun a ha => by
      obtain ⟨d, hd, rfl⟩ := pos_back hs ha
      exact hfull d (by omega))
    rw [h.cn] at this
    omega

theorem TI.put {sl : Nat → Nat} {n : Nat} {T : Nat → Nat} {i j : Nat} (h : TI sl n T i) (hs : sl i < n) (hsl : ∀ e, e < i → sl e < n) (hj : j < n) (h0 : T (pos (sl i) n j) = 0) (hfull : ∀ d, d < j → T (pos (sl i) n d) ≠ 0) :
    TI sl n (upd T (pos (sl i) n j) (i + 1)) (i + 1) := by
  refine ⟨fun a ha => ?_, fun e he => ?_, ?_⟩
  · by_cases e : a = pos (sl i) n j
    · rw [e, upd_same]; exact Nat.le_refl _
    · rw [upd_other e]; have := h.le a ha; omega
  · by_cases e1 : e = i
    · subst e1
      refine ⟨j, hj, upd_same _ _ _, fun d' hd' => ?_⟩
      by_cases e2 : pos (sl e) n d' = pos (sl e) n j
      · rw [e2, upd_same]; omega
      · rw [upd_other e2]; exact hfull d' hd'
    · obtain ⟨d, hd, ht, hp⟩ := h.at' e (by omega)
      refine ⟨d, hd, ?_, fun d' hd' => ?_⟩
      · rw [upd_other (fun e2 => by rw [e2, h0] at ht; omega)]; exact ht
      · by_cases e2 : pos (sl e) n d' = pos (sl i) n j
        · rw [e2, upd_same]; omega
        · rw [upd_other e2]; exact hp d' hd'
  · rw [cnt_upd h0 (by omega) n (pos_lt hs hj), h.cn]

/-- what find answers: the entry of this key, or none -/
def Found (em eh : Nat → Int) (m : Nat) (id h : Int) : Option Nat → Prop
  | some i => i < m ∧ em i = id ∧ eh i = h
  | none => ∀ i, i < m → ¬ (em i = id ∧ eh i = h)

def Distinct (em eh : Nat → Int) (m : Nat) : Prop := ∀ i j, i < m → j < m → em i = em j → eh i = eh j → i = j

theorem found_unique {em eh : Nat → Int} {m : Nat} {id h : Int} {a b : Option Nat} (hd : Distinct em eh m) (ha : Found em eh m id h a) (hb : Found em eh m id h b) : a = b := by
  cases a with
  | none =>
    cases b with
    | none => rfl
    | some j => exact absurd ⟨hb.2.1, hb.2.2⟩ (ha j hb.1)
  | some i =>
    cases b with
    | none => exact absurd ⟨ha.2.1, ha.2.2⟩ (hb i ha.1)
    | some j => rw [hd i j ha.1 hb.1 (ha.2.1.trans hb.2.1.symm) (ha.2.2.trans hb.2.2.symm)]

/-- an empty place on the way: the key is not there -/
theorem TI.miss {n m s j : Nat} {T : Nat → Nat} {em eh : Nat → Int} {id h : Int} {sl : Nat → Nat} (ht : TI sl n T m) (hj : j < n) (hsl : ∀ e, em e = id → eh e = h → sl e = s) (h0 : T (pos s n j) = 0)
    (hno : ∀ d, d < j → T (pos s n d) ≠ 0 ∧ ¬ (em (T (pos s n d) - 1) = id ∧ eh (T (pos s n d) - 1) = h)) : Found em eh m id h none := by
  intro e he hk
  obtain ⟨d, hd, h1, h2⟩ := ht.at' e he
  rw [hsl e hk.1 hk.2] at h1 h2
  by_cases e1 : d < j
  · have := (hno d e1).2
    rw [h1] at this
    exact this (by simpa using hk)
  · by_cases e2 : j < d
    · exact h2 j e2 h0
    · have : d = j := by omega
      rw [this, h0] at h1
      omega

end Go.Proofs.Ybulkbpss
