/-
  Plain mathematics of the model that reads the line forward.
-/
import Derived.Test.YbulkbprcPlain
namespace Go.Proofs.Ybulkbprc
set_option linter.unusedVariables false

/-- ls is where the line of k begins -/
def Ln (t : Nat → Int) (k ls : Nat) : Prop := ls ≤ k ∧ LS t ls ∧ ∀ i, ls ≤ i → i < k → t i ≠ 10

theorem ln_step {t : Nat → Int} {k ls : Nat} (h : Ln t k ls) (ht : t k ≠ 10) : Ln t (k + 1) ls :=
  ⟨by have := h.1; omega, h.2.1, fun i h1 h2 => by
    by_cases e : i = k
    · rw [e]; exact ht
    · exact h.2.2 i h1 (by omega)⟩
theorem ln_new {t : Nat → Int} {k : Nat} (ht : t k = 10) : Ln t (k + 1) (k + 1) := ⟨Nat.le_refl _, Or.inr (by simpa using ht), fun i h1 h2 => by omega⟩

theorem ln_unique {t : Nat → Int} {k ls ls' : Nat} (h : Ln t k ls) (h' : Ln t k ls') : ls = ls' := by
  obtain ⟨a1, a2, a3⟩ := h
  obtain ⟨b1, b2, b3⟩ := h'
  by_cases e : ls < ls'
  · rcases b2 with b2 | b2
    · omega
    · exact absurd b2 (a3 _ (by omega) (by omega))
  · by_cases e2 : ls' < ls
    · rcases a2 with a2 | a2
      · omega
      · exact absurd a2 (b3 _ (by omega) (by omega))
    · omega

theorem bl_ne {c : Int} (h : blB c = true) : c ≠ 10 := by simp [blB] at h; omega
theorem dg_ne {c : Int} (h : dgB c = true) : c ≠ 10 := by simp [dgB] at h; omega
theorem lt_ne {c : Int} (h : ltB c = true) : c ≠ 10 := by simp [ltB] at h; omega

theorem form1_ln {t : Nat → Int} {k ls : Nat} (h : Form1 t k ls) : Ln t k ls := ⟨h.1, h.2.1, fun i h1 h2 => bl_ne (h.2.2 i h1 h2)⟩
theorem form2_ln {t : Nat → Int} {k ls a d l : Nat} (h : Form2 t k ls a d l) : Ln t k ls := by
  obtain ⟨f1, f2, f3, f4, f5, f6, f7, f8, f9, f10, f11⟩ := h
  refine ⟨by omega, f5, fun i h1 h2 => ?_⟩
  by_cases e1 : i < a
  · exact bl_ne (f6 i h1 e1)
  · by_cases e2 : i = a
    · rw [e2, f7]; decide
    · by_cases e3 : i < d
      · exact dg_ne (f8 i (by omega) e3)
      · by_cases e4 : i < l
        · exact lt_ne (f9 i (by omega) e4)
        · by_cases e5 : i = l
          · rw [e5, f10]; decide
          · exact bl_ne (f11 i (by omega) h2)

/-- what the forward reader meets -/
theorem sl_fwd {t : Nat → Int} {k ls a : Nat} {cp : Bool} (h : Ln t k ls) (ha : Fw (fun i => blB (t i)) ls k a) :
    SL t k cp ↔ a = k ∨ (cp = true ∧ ∃ d l, Form2 t k ls a d l) := by
  constructor
  · rintro (⟨ls', f⟩ | ⟨hcp, ls', a', d, l, f⟩)
    · have e := ln_unique h (form1_ln f)
      subst e
      left
      by_cases e : a = k
      · exact e
      · rcases ha.2.2.2 with h4 | h4
        · exact h4
        · have := f.2.2 a ha.1 (by have := ha.2.1; omega)
          simp only [this] at h4; cases h4
    · have e := ln_unique h (form2_ln f)
      subst e
      right
      have f0 := f
      obtain ⟨f1, f2, f3, f4, f5, f6, f7, f8, f9, f10, f11⟩ := f
      have ea := fw_unique ha ⟨f1, by omega, f6, by simp only [f7]; rfl⟩
      subst ea
      exact ⟨hcp, d, l, f0⟩
  · rintro (e | ⟨hcp, d, l, f⟩)
    · subst e
      exact Or.inl ⟨ls, h.1, h.2.1, ha.2.2.1⟩
    · exact Or.inr ⟨hcp, ls, a, d, l, f⟩

theorem m_blank {t : Nat → Int} {k ls : Nat} {cp : Bool} (h : Ln t k ls) (ha : Fw (fun i => blB (t i)) ls k k) : SL t k cp := (sl_fwd h ha).2 (Or.inl rfl)

theorem m_uncopied {t : Nat → Int} {k ls a : Nat} (h : Ln t k ls) (ha : Fw (fun i => blB (t i)) ls k a) (hk : a < k) : ¬ SL t k false := by
  rw [sl_fwd h ha]; rintro (e | ⟨e, _⟩)
  · omega
  · cases e

theorem m_no91 {t : Nat → Int} {k ls a : Nat} {cp : Bool} (h : Ln t k ls) (ha : Fw (fun i => blB (t i)) ls k a) (hk : a < k) (h91 : t a ≠ 91) : ¬ SL t k cp := by
  rw [sl_fwd h ha]; rintro (e | ⟨_, d, l, f⟩)
  · omega
  · exact h91 f.2.2.2.2.2.2.1

theorem form2_d {t : Nat → Int} {k ls a d d' l : Nat} (f : Form2 t k ls a d' l) (hd : Fw (fun i => dgB (t i)) (a + 1) k d) : d = d' := by
  obtain ⟨f1, f2, f3, f4, f5, f6, f7, f8, f9, f10, f11⟩ := f
  refine fw_unique hd ⟨by omega, by omega, f8, ?_⟩
  by_cases e : d' < l
  · exact lt_dg (f9 d' (Nat.le_refl _) e)
  · have : d' = l := by omega
    simp only [this, f10]; rfl
theorem form2_l {t : Nat → Int} {k ls a d l l' : Nat} (f : Form2 t k ls a d l') (hl : Fw (fun i => ltB (t i)) d k l) : l = l' := by
  obtain ⟨f1, f2, f3, f4, f5, f6, f7, f8, f9, f10, f11⟩ := f
  exact fw_unique hl ⟨by omega, by omega, f9, by simp only [f10]; rfl⟩

theorem m_nodigit {t : Nat → Int} {k ls a : Nat} {cp : Bool} (h : Ln t k ls) (ha : Fw (fun i => blB (t i)) ls k a) (hk : a < k) (hd : Fw (fun i => dgB (t i)) (a + 1) k (a + 1)) : ¬ SL t k cp := by
  rw [sl_fwd h ha]; rintro (e | ⟨_, d, l, f⟩)
  · omega
  · have := form2_d f hd
    have := f.2.1
    omega

theorem m_noend {t : Nat → Int} {k ls a d l : Nat} {cp : Bool} (h : Ln t k ls) (ha : Fw (fun i => blB (t i)) ls k a) (hk : a < k) (hd : Fw (fun i => dgB (t i)) (a + 1) k d) (hl : Fw (fun i => ltB (t i)) d k l)
    (h93 : l = k ∨ t l ≠ 93) : ¬ SL t k cp := by
  rw [sl_fwd h ha]; rintro (e | ⟨_, d', l', f⟩)
  · omega
  · have := form2_d f hd
    subst this
    have := form2_l f hl
    subst this
    rcases h93 with e | e
    · have := f.2.2.2.1; omega
    · exact e f.2.2.2.2.2.2.2.2.2.1

theorem m_end {t : Nat → Int} {k ls a d l m : Nat} (h : Ln t k ls) (ha : Fw (fun i => blB (t i)) ls k a) (hk : a < k) (h91 : t a = 91) (hd : Fw (fun i => dgB (t i)) (a + 1) k d) (hda : d ≠ a + 1) (hl : Fw (fun i => ltB (t i)) d k l)
    (hlk : l < k) (h93 : t l = 93) (hm : Fw (fun i => blB (t i)) (l + 1) k m) : m = k ↔ SL t k true := by
  rw [sl_fwd h ha]
  constructor
  · intro e
    subst e
    refine Or.inr ⟨rfl, d, l, ha.1, by have := hd.1; omega, hl.1, hlk, h.2.1, ha.2.2.1, h91, hd.2.2.1, hl.2.2.1, h93, hm.2.2.1⟩
  · rintro (e | ⟨_, d', l', f⟩)
    · omega
    · have := form2_d f hd
      subst this
      have := form2_l f hl
      subst this
      by_cases e : m = k
      · exact e
      · rcases hm.2.2.2 with h4 | h4
        · exact h4
        · have := f.2.2.2.2.2.2.2.2.2.2 m hm.1 (by have := hm.2.1; omega)
          simp only [this] at h4; cases h4

end Go.Proofs.Ybulkbprc
