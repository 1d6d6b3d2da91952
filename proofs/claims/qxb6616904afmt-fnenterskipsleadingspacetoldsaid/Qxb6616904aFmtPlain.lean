/-
  PLAIN MATHEMATICS for the seat b6616904aF: what the reader of package jsonread computes, as functions on lists of bytes (as integers). No Go in sight.
-/
namespace Go.Proofs.Qxb6616904aFmt

/-- white space as JSON has it -/
def spB (c : Int) : Bool := c == 32 || c == 9 || c == 10 || c == 13

/-- the byte that closes what c opens -/
def closer (c : Int) : Int := if c = 91 then 93 else 125

/-- the byte at place i, 0 past the end -/
def pk (D : List Int) (i : Nat) : Int := D.getD i 0

theorem pk_of_lt {D : List Int} {i : Nat} (h : i < D.length) : pk D i = D[i] := by simp [pk, List.getD, h]
theorem pk_of_ge {D : List Int} {i : Nat} (h : ¬ i < D.length) : pk D i = 0 := by simp [pk, List.getD, List.getElem?_eq_none (Nat.le_of_not_lt h)]

theorem spB_false_of_gt {c : Int} (h : ¬ c ≤ 32) : spB c = false := by simp [spB]; omega
theorem spB_le {c : Int} (h : spB c = true) : c ≤ 32 := by simp [spB] at h; omega
theorem spB_zero : spB 0 = false := rfl

def skipN (D : List Int) : Nat → Nat → Nat
  | 0, i => i
  | f + 1, i => if i < D.length ∧ spB (pk D i) = true then skipN D f (i + 1) else i

/-- the first place from i on that is no white space (or the end) -/
def skip (D : List Int) (i : Nat) : Nat := skipN D (D.length - i) i

theorem skip_step {D : List Int} {i : Nat} (h : i < D.length) (hs : spB (pk D i) = true) : skip D i = skip D (i + 1) := by
  unfold skip
  obtain ⟨f, hf⟩ : ∃ f, D.length - i = f + 1 := ⟨D.length - i - 1, by omega⟩
  rw [hf, skipN, if_pos ⟨h, hs⟩]
  rw [show D.length - (i + 1) = f by omega]

theorem skip_stop {D : List Int} {i : Nat} (h : ¬ (i < D.length ∧ spB (pk D i) = true)) : skip D i = i := by
  unfold skip
  cases hf : D.length - i with
  | zero => rfl
  | succ f => rw [skipN, if_neg h]

theorem skipN_bounds (D : List Int) : ∀ f i, i ≤ skipN D f i ∧ (i ≤ D.length → skipN D f i ≤ D.length)
  | 0, i => ⟨Nat.le_refl _, fun h => h⟩
  | f + 1, i => by
    rw [skipN]
    split
    · rename_i h
      have := skipN_bounds D f (i + 1)
      exact ⟨by omega, fun _ => this.2 (by omega)⟩
    · exact ⟨Nat.le_refl _, fun h => h⟩

theorem le_skip (D : List Int) (i : Nat) : i ≤ skip D i := (skipN_bounds D _ i).1
theorem skip_le {D : List Int} {i : Nat} (h : i ≤ D.length) : skip D i ≤ D.length := (skipN_bounds D _ i).2 h

theorem skipN_end (D : List Int) : ∀ f i, D.length ≤ f + i → ¬ (skipN D f i < D.length ∧ spB (pk D (skipN D f i)) = true)
  | 0, i => fun h => by rw [skipN]; omega
  | f + 1, i => fun h => by
    rw [skipN]
    split
    · exact skipN_end D f (i + 1) (by omega)
    · assumption

theorem skip_end (D : List Int) (i : Nat) : ¬ (skip D i < D.length ∧ spB (pk D (skip D i)) = true) := skipN_end D _ i (by omega)
theorem skip_skip (D : List Int) (i : Nat) : skip D (skip D i) = skip D i := skip_stop (skip_end D i)
theorem skip_not (D : List Int) (i : Nat) : spB (pk D (skip D i)) = false := by
  by_cases h : skip D i < D.length
  · have := skip_end D i
    cases hs : spB (pk D (skip D i))
    · rfl
    · exact absurd ⟨h, hs⟩ this
  · rw [pk_of_ge h]; rfl

end Go.Proofs.Qxb6616904aFmt
