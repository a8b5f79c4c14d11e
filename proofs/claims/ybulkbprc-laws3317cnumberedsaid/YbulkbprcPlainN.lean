/-
  Plain mathematics of the numbered line that the law builds.
-/
import Derived.Test.YbulkbprcPlain
namespace Go.Proofs.Ybulkbprc
set_option linter.unusedVariables false

theorem seg {full P M S : List Int} (h : full = P ++ (M ++ S)) {p : Int → Bool} (hp : ∀ c ∈ M, p c = true) : ∀ i, P.length ≤ i → i < P.length + M.length → p (full.getD i 0) = true := by
  intro i h1 h2
  have hj : i - P.length < M.length := by omega
  have : full.getD i 0 = M[i - P.length] := by
    rw [h, List.getD, List.getElem?_append_right h1, List.getElem?_append_left hj, List.getElem?_eq_getElem hj]; rfl
  rw [this]
  exact hp _ (List.getElem_mem hj)

theorem seg_one {full P S : List Int} {c : Int} (h : full = P ++ (c :: S)) : full.getD P.length 0 = c := by
  rw [h, List.getD, List.getElem?_append_right (Nat.le_refl _)]; simp

/-- the line up to the offset -/
def lineOf (A L D E T : List Int) : List Int := A ++ L ++ [91] ++ D ++ E ++ [93] ++ T

/-- a text that ends where a line begins -/
def Bg (A : List Int) : Prop := A = [] ∨ ∃ ys, A = ys ++ [10]

theorem form2_of (A L D E T R : List Int) (hA : Bg A) (hL : ∀ c ∈ L, blB c = true) (hD0 : D ≠ []) (hD : ∀ c ∈ D, dgB c = true) (hE : ∀ c ∈ E, ltB c = true) (hT : ∀ c ∈ T, blB c = true) :
    Form2 (fun i => (lineOf A L D E T ++ R).getD i 0) (lineOf A L D E T).length A.length (A.length + L.length) (A.length + L.length + 1 + D.length) (A.length + L.length + 1 + D.length + E.length) := by
  have hDl : 0 < D.length := List.length_pos_iff.2 hD0
  have hlen : (lineOf A L D E T).length = A.length + L.length + 1 + D.length + E.length + 1 + T.length := by simp [lineOf]; omega
  refine ⟨by omega, by omega, by omega, by rw [hlen]; omega, ?_, ?_, ?_, ?_, ?_, ?_, ?_⟩
  · rcases hA with rfl | ⟨ys, rfl⟩
    · exact Or.inl rfl
    · refine Or.inr ?_
      have := seg_one (full := lineOf (ys ++ [10]) L D E T ++ R) (P := ys) (c := 10) (S := L ++ [91] ++ D ++ E ++ [93] ++ T ++ R) (by simp [lineOf])
      simpa using this
  · exact seg (P := A) (M := L) (S := [91] ++ D ++ E ++ [93] ++ T ++ R) (by simp [lineOf]) hL
  · have := seg_one (full := lineOf A L D E T ++ R) (P := A ++ L) (c := 91) (S := D ++ E ++ [93] ++ T ++ R) (by simp [lineOf])
    simpa using this
  · intro i h1 h2
    have := seg (full := lineOf A L D E T ++ R) (P := A ++ L ++ [91]) (M := D) (S := E ++ [93] ++ T ++ R) (by simp [lineOf]) hD i (by simp; omega) (by simp; omega)
    exact this
  · intro i h1 h2
    have := seg (full := lineOf A L D E T ++ R) (P := A ++ L ++ [91] ++ D) (M := E) (S := [93] ++ T ++ R) (by simp [lineOf]) hE i (by simp; omega) (by simp; omega)
    exact this
  · have := seg_one (full := lineOf A L D E T ++ R) (P := A ++ L ++ [91] ++ D ++ E) (c := 93) (S := T ++ R) (by simp [lineOf])
    have hl : (A ++ L ++ [91] ++ D ++ E).length = A.length + L.length + 1 + D.length + E.length := by simp; omega
    rw [hl] at this
    exact this
  · intro i h1 h2
    rw [hlen] at h2
    have := seg (full := lineOf A L D E T ++ R) (P := A ++ L ++ [91] ++ D ++ E ++ [93]) (M := T) (S := R) (by simp [lineOf]) hT i (by simp; omega) (by simp; omega)
    exact this

theorem form2_no1 {t : Nat → Int} {k ls ls' a d l : Nat} (f : Form2 t k ls a d l) (g : Form1 t k ls') : False := by
  obtain ⟨f1, f2, f3, f4, f5, f6, f7, f8, f9, f10, f11⟩ := f
  obtain ⟨g1, g2, g3⟩ := g
  by_cases e : ls' ≤ l
  · have := g3 l e f4
    rw [f10, bl_93] at this; cases this
  · rcases g2 with g2 | g2
    · omega
    · by_cases e2 : ls' - 1 = l
      · rw [e2, f10] at g2; cases g2
      · have := f11 (ls' - 1) (by omega) (by omega)
        rw [g2, bl_10] at this; cases this

theorem numbered (A L D E T R : List Int) (hA : Bg A) (hL : ∀ c ∈ L, blB c = true) (hD0 : D ≠ []) (hD : ∀ c ∈ D, dgB c = true) (hE : ∀ c ∈ E, ltB c = true) (hT : ∀ c ∈ T, blB c = true) (cp : Bool) :
    SL (fun i => (lineOf A L D E T ++ R).getD i 0) (lineOf A L D E T).length cp ↔ cp = true := by
  have f := form2_of A L D E T R hA hL hD0 hD hE hT
  constructor
  · rintro (⟨ls, g⟩ | ⟨h, _⟩)
    · exact (form2_no1 f g).elim
    · exact h
  · intro h
    exact Or.inr ⟨h, _, _, _, _, f⟩

theorem all_snoc {p : Int → Bool} {L : List Int} {c : Int} (h : ∀ x ∈ L, p x = true) (hc : p c = true) : ∀ x ∈ L ++ [c], p x = true := by
  intro x hx
  rcases List.mem_append.1 hx with h1 | h1
  · exact h x h1
  · rw [List.mem_singleton.1 h1]; exact hc

end Go.Proofs.Ybulkbprc
