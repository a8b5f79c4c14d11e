/-
  Plain mathematics of the road of startsLine: no Go in sight. 't i' is the byte at place i of a text.
-/
namespace Go.Proofs.Ybulkbprc
set_option linter.unusedVariables false

def blB (c : Int) : Bool := decide (c = 32 ∨ c = 9)
def dgB (c : Int) : Bool := decide (48 ≤ c ∧ c ≤ 57)
def ltB (c : Int) : Bool := decide ((97 ≤ c ∧ c ≤ 122) ∨ (65 ≤ c ∧ c ≤ 90))

/-- r is where the blanks begin that stand right before k. -/
def Sk (t : Nat → Int) (k r : Nat) : Prop := r ≤ k ∧ (∀ i, r ≤ i → i < k → blB (t i) = true) ∧ (r = 0 ∨ blB (t (r - 1)) = false)

/-- r is where the run of p that begins at i ends, before n. -/
def Fw (p : Nat → Bool) (i n r : Nat) : Prop := i ≤ r ∧ r ≤ n ∧ (∀ j, i ≤ j → j < r → p j = true) ∧ (r = n ∨ p r = false)

/-- r is where the letters and digits begin that stand right before k. -/
def Bk (t : Nat → Int) (k r : Nat) : Prop := r ≤ k ∧ (∀ i, r ≤ i → i < k → (ltB (t i) || dgB (t i)) = true) ∧ (r = 0 ∨ (ltB (t (r - 1)) || dgB (t (r - 1))) = false)

/-- what productionNumber answers at a start within the text. -/
def PN (t : Nat → Int) (n s : Nat) (e : Int) (ok : Bool) : Prop :=
  (ok = true ∧ ∃ d l : Nat, t s = 91 ∧ Fw (fun i => dgB (t i)) (s + 1) n d ∧ d ≠ s + 1 ∧ Fw (fun i => ltB (t i)) d n l ∧ l < n ∧ t l = 93 ∧ e = (l : Int) + 1) ∨
  (ok = false ∧ (t s ≠ 91 ∨ ∃ d : Nat, Fw (fun i => dgB (t i)) (s + 1) n d ∧ (d = s + 1 ∨ ∃ l : Nat, Fw (fun i => ltB (t i)) d n l ∧ (l = n ∨ t l ≠ 93))))

theorem fw_step {p : Nat → Bool} {i j : Nat} (h : ∀ q, i ≤ q → q < j → p q = true) (hj : p j = true) : ∀ q, i ≤ q → q < j + 1 → p q = true := fun q h1 h2 => by
  by_cases e : q = j
  · rw [e]; exact hj
  · exact h q h1 (by omega)

theorem bk_step {p : Nat → Bool} {k q : Nat} (h : ∀ i, q + 1 ≤ i → i < k → p i = true) (hj : p q = true) : ∀ i, q ≤ i → i < k → p i = true := fun i h1 h2 => by
  by_cases e : i = q
  · rw [e]; exact hj
  · exact h i (by omega) h2

/-- ls begins a line. -/
def LS (t : Nat → Int) (ls : Nat) : Prop := ls = 0 ∨ t (ls - 1) = 10

/-- from ls to k blanks alone -/
def Form1 (t : Nat → Int) (k ls : Nat) : Prop := ls ≤ k ∧ LS t ls ∧ ∀ i, ls ≤ i → i < k → blB (t i) = true
/-- from ls to k blanks, a production number from a to l, blanks -/
def Form2 (t : Nat → Int) (k ls a d l : Nat) : Prop := ls ≤ a ∧ a + 1 < d ∧ d ≤ l ∧ l < k ∧ LS t ls ∧ (∀ i, ls ≤ i → i < a → blB (t i) = true) ∧ t a = 91 ∧
  (∀ i, a + 1 ≤ i → i < d → dgB (t i) = true) ∧ (∀ i, d ≤ i → i < l → ltB (t i) = true) ∧ t l = 93 ∧ ∀ i, l + 1 ≤ i → i < k → blB (t i) = true
/-- what startsLine says -/
def SL (t : Nat → Int) (k : Nat) (cp : Bool) : Prop := (∃ ls, Form1 t k ls) ∨ (cp = true ∧ ∃ ls a d l, Form2 t k ls a d l)

theorem bl_93 : blB 93 = false := rfl
theorem bl_91 : blB 91 = false := rfl
theorem bl_10 : blB 10 = false := rfl
theorem ld_93 : (ltB 93 || dgB 93) = false := rfl
theorem ld_91 : (ltB 91 || dgB 91) = false := rfl
theorem dg_93 : dgB 93 = false := rfl
theorem lt_dg {c : Int} (h : ltB c = true) : dgB c = false := by simp [ltB] at h; simp [dgB]; omega
theorem lt_93 : ltB 93 = false := rfl

/-- skipping back from k comes to the line's start where blanks alone stand there -/
theorem sk_form1 {t : Nat → Int} {k r ls : Nat} (h : Sk t k r) (f : Form1 t k ls) : r = ls := by
  obtain ⟨h1, h2, h3⟩ := h
  obtain ⟨f1, f2, f3⟩ := f
  have a : r ≤ ls := by
    by_cases e : r ≤ ls
    · exact e
    · rcases h3 with h3 | h3
      · omega
      · rw [f3 (r - 1) (by omega) (by omega)] at h3; cases h3
  by_cases e : r = ls
  · exact e
  · rcases f2 with f2 | f2
    · omega
    · have := h2 (ls - 1) (by omega) (by omega)
      rw [f2, bl_10] at this; cases this

/-- and to the place behind the bracket where a number stands there -/
theorem sk_at {t : Nat → Int} {k r l : Nat} (h : Sk t k r) (hl : l < k) (h93 : t l = 93) (hb : ∀ i, l + 1 ≤ i → i < k → blB (t i) = true) : r = l + 1 := by
  obtain ⟨h1, h2, h3⟩ := h
  have a : l < r := by
    by_cases e : l < r
    · exact e
    · have := h2 l (by omega) hl
      rw [h93, bl_93] at this; cases this
  by_cases e : r = l + 1
  · exact e
  · rcases h3 with h3 | h3
    · omega
    · rw [hb (r - 1) (by omega) (by omega)] at h3; cases h3

theorem ls_of {t : Nat → Int} {k r : Nat} (h : Sk t k r) (hr : LS t r) : Form1 t k r := ⟨h.1, hr, h.2.1⟩

/-- no bracket right before: the plain answer -/
theorem case_plain {t : Nat → Int} {k r : Nat} {cp : Bool} (h : Sk t k r) (hno : ¬ (cp = true ∧ 0 < r ∧ t (r - 1) = 93)) : LS t r ↔ SL t k cp := by
  constructor
  · intro hr
    exact Or.inl ⟨r, ls_of h hr⟩
  · rintro (⟨ls, f⟩ | ⟨hcp, ls, a, d, l, f1, f2, f3, f4, f5, f6, f7, f8, f9, f10, f11⟩)
    · rw [sk_form1 h f]; exact f.2.1
    · have := sk_at h f4 f10 f11
      exact absurd ⟨hcp, by omega, by rw [this]; simpa using f10⟩ hno

theorem ls_93 {t : Nat → Int} {r : Nat} (h0 : 0 < r) (h93 : t (r - 1) = 93) : ¬ LS t r := by
  rintro (h | h)
  · omega
  · rw [h93] at h; cases h

/-- where a bracket stands right before, a number's form is found by going back over letters and digits -/
theorem bk_form2 {t : Nat → Int} {k r op ls a d l : Nat} (h : Sk t k r) (hb : Bk t (r - 1) op) (f : Form2 t k ls a d l) : r = l + 1 ∧ op = a + 1 := by
  obtain ⟨f1, f2, f3, f4, f5, f6, f7, f8, f9, f10, f11⟩ := f
  have hr := sk_at h f4 f10 f11
  refine ⟨hr, ?_⟩
  obtain ⟨b1, b2, b3⟩ := hb
  have hin : ∀ i, a + 1 ≤ i → i < l → (ltB (t i) || dgB (t i)) = true := fun i h1 h2 => by
    by_cases e : i < d
    · simp [f8 i h1 e]
    · simp [f9 i (by omega) h2]
  have e1 : op ≤ a + 1 := by
    by_cases e : op ≤ a + 1
    · exact e
    · rcases b3 with b3 | b3
      · omega
      · rw [hin (op - 1) (by omega) (by omega)] at b3; cases b3
  by_cases e : op = a + 1
  · exact e
  · have := b2 a (by omega) (by omega)
    rw [f7, ld_91] at this; cases this

theorem form2_out {t : Nat → Int} {k r op : Nat} {cp : Bool} (h : Sk t k r) (h0 : 0 < r) (h93 : t (r - 1) = 93) (hb : Bk t (r - 1) op) (hs : SL t k cp) :
    ∃ ls a d l, Form2 t k ls a d l ∧ r = l + 1 ∧ op = a + 1 := by
  rcases hs with ⟨ls, f⟩ | ⟨_, ls, a, d, l, f⟩
  · have e := sk_form1 h f
    have := f.2.1
    rw [← e] at this
    exact absurd this (ls_93 h0 h93)
  · exact ⟨ls, a, d, l, f, bk_form2 h hb f⟩

theorem case_zero {t : Nat → Int} {k r op : Nat} {cp : Bool} (h : Sk t k r) (h0 : 0 < r) (h93 : t (r - 1) = 93) (hb : Bk t (r - 1) op) (hop : op = 0) : ¬ SL t k cp := by
  intro hs
  obtain ⟨_, _, _, _, _, _, e⟩ := form2_out h h0 h93 hb hs
  omega

theorem fw_unique {p : Nat → Bool} {i n r r' : Nat} (h : Fw p i n r) (h' : i ≤ r' ∧ r' < n ∧ (∀ j, i ≤ j → j < r' → p j = true) ∧ p r' = false) : r = r' := by
  obtain ⟨a1, a2, a3, a4⟩ := h
  obtain ⟨b1, b2, b3, b4⟩ := h'
  by_cases e : r < r'
  · rcases a4 with a4 | a4
    · omega
    · rw [b3 r a1 e] at a4; cases a4
  · by_cases e2 : r' < r
    · rw [a3 r' b1 e2] at b4; cases b4
    · omega

theorem case_no {t : Nat → Int} {k r s n : Nat} {cp : Bool} {e : Int} (h : Sk t k r) (hkn : k ≤ n) (h0 : 0 < r) (h93 : t (r - 1) = 93) (hb : Bk t (r - 1) (s + 1)) (hp : PN t n s e false) : ¬ SL t k cp := by
  intro hs
  obtain ⟨ls, a, d, l, f, er, eo⟩ := form2_out h h0 h93 hb hs
  obtain ⟨f1, f2, f3, f4, f5, f6, f7, f8, f9, f10, f11⟩ := f
  have es : s = a := by omega
  subst es
  rcases hp with ⟨hx, _⟩ | ⟨_, hx⟩
  · cases hx
  · rcases hx with hx | ⟨d', hd', hx⟩
    · exact hx f7
    · have ndg : dgB (t d) = false := by
        by_cases e : d < l
        · exact lt_dg (f9 d (Nat.le_refl _) e)
        · have : d = l := by omega
          rw [this, f10]; rfl
      have ed := fw_unique hd' ⟨by omega, by omega, f8, ndg⟩
      subst ed
      rcases hx with hx | ⟨l', hl', hx⟩
      · omega
      · have el := fw_unique hl' ⟨f3, by omega, f9, by rw [f10]; rfl⟩
        subst el
        rcases hx with hx | hx
        · omega
        · exact hx f10

/-- a number that is read from the bracket on ends just where the skipping back had come -/
theorem yes_end {t : Nat → Int} {r s n : Nat} {e : Int} (h0 : 0 < r) (h93 : t (r - 1) = 93) (hb : Bk t (r - 1) (s + 1)) (hp : PN t n s e true) : e = (r : Int) := by
  rcases hp with ⟨_, d, l, p1, p2, p3, p4, p5, p6, rfl⟩ | ⟨hx, _⟩
  · obtain ⟨b1, b2, b3⟩ := hb
    have : l = r - 1 := by
      by_cases e1 : l < r - 1
      · have := b2 l (by have := p2.1; have := p4.1; omega) e1
        rw [p6, ld_93] at this; cases this
      · by_cases e2 : r - 1 < l
        · by_cases e3 : r - 1 < d
          · have := p2.2.2.1 (r - 1) (by omega) e3
            simp only [h93, dg_93] at this; cases this
          · have := p4.2.2.1 (r - 1) (by omega) e2
            simp only [h93, lt_93] at this; cases this
        · omega
    omega
  · cases hx

theorem case_yes {t : Nat → Int} {k r s n r2 : Nat} {e : Int} (h : Sk t k r) (h0 : 0 < r) (h93 : t (r - 1) = 93) (hb : Bk t (r - 1) (s + 1)) (hp : PN t n s e true) (h2 : Sk t s r2) : LS t r2 ↔ SL t k true := by
  have he := yes_end h0 h93 hb hp
  rcases hp with ⟨_, d, l, p1, p2, p3, p4, p5, p6, rfl⟩ | ⟨hx, _⟩
  · have el : l = r - 1 := by omega
    constructor
    · intro hls
      refine Or.inr ⟨rfl, r2, s, d, l, h2.1, by have := p2.1; omega, p4.1, by have := h.1; omega, hls, h2.2.1, p1, p2.2.2.1, p4.2.2.1, p6, fun i h1 h2 => h.2.1 i (by omega) h2⟩
    · intro hs
      obtain ⟨ls, a, d', l', f, er, eo⟩ := form2_out h h0 h93 hb hs
      have es : s = a := by omega
      subst es
      have := sk_form1 h2 (ls := ls) ⟨f.1, f.2.2.2.2.1, f.2.2.2.2.2.1⟩
      rw [this]; exact f.2.2.2.2.1
  · cases hx

end Go.Proofs.Ybulkbprc
