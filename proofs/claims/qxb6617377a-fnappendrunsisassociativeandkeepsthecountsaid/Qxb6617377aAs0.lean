/-
  What FnAppendRunsIsAssociativeAndKeepsTheCount looks at, in plain words.
-/
import Derived.Test.Qxb6617377aMg0
namespace Go.Proofs.Qxb6617377a
set_option linter.unusedVariables false
set_option linter.unusedSimpArgs false
open Go.RowKit

theorem keeps_front (A B : List (Int × Int)) (i : Nat) (hi : i < sI A) : rR (apR A B) i = rR A i ∧ rN (apR A B) i = rN A i := by
  have hl : (A.take (sI A)).length = sI A := by rw [List.length_take]; unfold sI; omega
  have h := apR_split A B
  have e1 : rR (A.take (sI A)) i = rR A i := by simp [rR, List.getD, List.getElem?_take, hi]
  have e2 : rN (A.take (sI A)) i = rN A i := by simp [rN, List.getD, List.getElem?_take, hi]
  rw [h, rR_app_l (by omega), rN_app_l (by omega)]
  exact ⟨e1, e2⟩
theorem no_equals (A B : List (Int × Int)) (k : Nat) (hk : sI A ≤ k) (hl : k + 1 < (apR A B).length) : rR (apR A B) (k + 1) ≠ rR (apR A B) k := by
  have h := apR_split A B
  have hn : nn (apR [] ((A ++ B).drop (sI A))) := nn_apR (G := []) True.intro _
  have hla : (A.take (sI A)).length = sI A := by rw [List.length_take]; unfold sI; omega
  rw [h] at hl ⊢
  generalize apR [] ((A ++ B).drop (sI A)) = G at hn hl ⊢
  rw [List.length_append, hla] at hl
  rw [nn_iff] at hn
  have k1 := rR_app_r (l := A.take (sI A)) (m := G) (k - sI A)
  have k2 := rR_app_r (l := A.take (sI A)) (m := G) (k + 1 - sI A)
  rw [hla, show sI A + (k - sI A) = k by omega] at k1
  rw [hla, show sI A + (k + 1 - sI A) = k + 1 by omega] at k2
  rw [k1, k2]
  have := hn (k - sI A) (by omega)
  rw [show k - sI A + 1 = k + 1 - sI A by omega] at this
  exact fun e => this e.symm
theorem empty_iff (A B C : List (Int × Int)) : (apR (apR A B) C).length = 0 ↔ A.length + B.length + C.length = 0 := by
  constructor
  · intro h
    have hn : apR (apR A B) C = [] := List.eq_nil_of_length_eq_zero h
    by_cases hA : A = []
    · by_cases hB : B = []
      · by_cases hC : C = []
        · subst hA hB hC; rfl
        · exact absurd hn (apR_ne_nil (.inr hC))
      · exact absurd hn (apR_ne_nil (.inl (apR_ne_nil (.inr hB))))
    · exact absurd hn (apR_ne_nil (.inl (apR_ne_nil (.inl hA))))
  · intro h
    have h1 : A = [] := List.eq_nil_of_length_eq_zero (by omega)
    have h2 : B = [] := List.eq_nil_of_length_eq_zero (by omega)
    have h3 : C = [] := List.eq_nil_of_length_eq_zero (by omega)
    subst h1 h2 h3
    rfl
theorem sums (A B C : List (Int × Int)) : wrap64 (tot (apR (apR A B) C)) = wrap64 (wrap64 (wrap64 (tot A) + wrap64 (tot B)) + wrap64 (tot C)) := by
  have e : ∀ x y z : Int, wrap64 (wrap64 (wrap64 x + wrap64 y) + wrap64 z) = wrap64 (x + y + z) := by intro x y z; unfold wrap64; omega
  rw [tot_apR, ← wrap_l, tot_apR, wrap_l, e]

/-- what the walk asks of G, the row of all three -/
structure Lw (A B C G : List (Int × Int)) : Prop where
  len : A.length ≤ G.length
  top : G.length ≤ A.length + B.length + C.length
  front : ∀ i, i < sI A → rR G i = rR A i ∧ rN G i = rN A i
  apart : ∀ k, sI A ≤ k → k + 1 < G.length → rR G (k + 1) ≠ rR G k
  sum : wrap64 (tot G) = wrap64 (wrap64 (wrap64 (tot A) + wrap64 (tot B)) + wrap64 (tot C))
theorem Lw.mk' (A B C : List (Int × Int)) : Lw A B C (apR (apR A B) C) := by
  have l1 := apR_len (apR A B) C
  have l2 := apR_len A B
  refine ⟨by omega, by omega, ?_, ?_, sums A B C⟩
  · rw [apR_assoc]; exact keeps_front A (apR B C)
  · rw [apR_assoc]; exact no_equals A (apR B C)

end Go.Proofs.Qxb6617377a
