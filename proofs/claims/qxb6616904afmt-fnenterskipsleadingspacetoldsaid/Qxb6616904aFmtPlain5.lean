/-
  PLAIN: white space ahead of a text shifts what Enter does.
-/
import Derived.Test.Qxb6616904aFmtPlain2
namespace Go.Proofs.Qxb6616904aFmt

theorem pk_left {A B : List Int} {i : Nat} (h : i < A.length) : pk (A ++ B) i = pk A i := by
  simp [pk, List.getD, List.getElem?_append_left h]
theorem pk_right (A B : List Int) (i : Nat) : pk (A ++ B) (A.length + i) = pk B i := by
  simp [pk, List.getD, List.getElem?_append_right (Nat.le_add_right _ _)]

theorem skip_left {A B : List Int} (hA : ∀ j, j < A.length → spB (pk A j) = true) : ∀ m k, k + m = A.length → skip (A ++ B) k = skip (A ++ B) A.length
  | 0, k => fun h => by rw [show k = A.length by omega]
  | m + 1, k => fun h => by
    have hk : k < A.length := by omega
    rw [skip_step (by simp; omega) (by rw [pk_left hk]; exact hA k hk)]
    exact skip_left hA m (k + 1) (by omega)

theorem skip_right (A B : List Int) : ∀ m k, B.length ≤ k + m → skip (A ++ B) (A.length + k) = A.length + skip B k
  | 0, k => fun h => by
    rw [skip_stop (D := A ++ B) (fun h' => by have := h'.1; simp at this; omega), skip_stop (D := B) (fun h' => by have := h'.1; omega)]
  | m + 1, k => fun h => by
    by_cases hk : k < B.length ∧ spB (pk B k) = true
    · rw [skip_step (D := A ++ B) (by simp; exact hk.1) (by rw [pk_right]; exact hk.2), skip_step hk.1 hk.2]
      exact skip_right A B m (k + 1) (by omega)
    · rw [skip_stop (D := A ++ B) (fun h' => hk ⟨by have := h'.1; simp at this; omega, by rw [← pk_right A B]; exact h'.2⟩), skip_stop hk]

theorem skip_shift {A B : List Int} (hA : ∀ j, j < A.length → spB (pk A j) = true) : skip (A ++ B) 0 = A.length + skip B 0 := by
  rw [skip_left hA A.length 0 (by omega)]
  have := skip_right A B B.length 0 (by omega)
  simpa using this

theorem enter_in {D : List Int} (h : pk D (skip D 0) = 91 ∨ pk D (skip D 0) = 123) : enter D ⟨0, false, []⟩ = ⟨skip D 0 + 1, false, [(closer (pk D (skip D 0)), false)]⟩ := by
  unfold enter
  rw [if_pos ⟨h, by decide⟩]
  rfl
theorem enter_out {D : List Int} (h : ¬ (pk D (skip D 0) = 91 ∨ pk D (skip D 0) = 123)) : enter D ⟨0, false, []⟩ = ⟨skip D 0, true, []⟩ := by
  unfold enter
  rw [if_neg (fun h' => h h'.1)]

end Go.Proofs.Qxb6616904aFmt
