/-
  THE PLAIN LAWS OF appendRuns.
-/
import Derived.Test.Qxb6617377aW1
namespace Go.Proofs.Qxb6617377a
set_option linter.unusedVariables false
set_option linter.unusedSimpArgs false
open Go.RowKit

/-- one run onto a row of runs -/
def apOne (L : List (Int × Int)) (x : Int × Int) : List (Int × Int) :=
  if 0 < L.length ∧ rR L (L.length - 1) = x.1 then L.dropLast ++ [(rR L (L.length - 1), wrap64 (rN L (L.length - 1) + x.2))] else L ++ [x]
/-- a row of runs onto a row of runs -/
def apR (L M : List (Int × Int)) : List (Int × Int) := M.foldl apOne L

theorem rR_snoc (l : List (Int × Int)) (y : Int × Int) : rR (l ++ [y]) l.length = y.1 := by simp [rR, List.getD]
theorem rN_snoc (l : List (Int × Int)) (y : Int × Int) : rN (l ++ [y]) l.length = y.2 := by simp [rN, List.getD]
theorem apOne_nil (x : Int × Int) : apOne [] x = [x] := rfl
theorem apOne_eq (l : List (Int × Int)) (y x : Int × Int) (h : y.1 = x.1) : apOne (l ++ [y]) x = l ++ [(y.1, wrap64 (y.2 + x.2))] := by
  unfold apOne
  rw [List.length_append]
  simp only [List.length_cons, List.length_nil, Nat.add_sub_cancel, Nat.zero_add, rR_snoc, rN_snoc]
  rw [if_pos ⟨by omega, h⟩, List.dropLast_concat]
theorem apOne_ne (l : List (Int × Int)) (y x : Int × Int) (h : y.1 ≠ x.1) : apOne (l ++ [y]) x = l ++ [y] ++ [x] := by
  unfold apOne
  rw [List.length_append]
  simp only [List.length_cons, List.length_nil, Nat.add_sub_cancel, Nat.zero_add, rR_snoc, rN_snoc]
  rw [if_neg (fun c => h c.2)]
theorem apR_nil (L : List (Int × Int)) : apR L [] = L := rfl
theorem apR_cons (L : List (Int × Int)) (x : Int × Int) (M : List (Int × Int)) : apR L (x :: M) = apR (apOne L x) M := rfl
theorem apR_app (L M N : List (Int × Int)) : apR L (M ++ N) = apR (apR L M) N := by unfold apR; rw [List.foldl_append]
theorem apR_snoc (L M : List (Int × Int)) (x : Int × Int) : apR L (M ++ [x]) = apOne (apR L M) x := by rw [apR_app]; rfl

theorem apOne_ne_nil (L : List (Int × Int)) (x : Int × Int) : apOne L x ≠ [] := by unfold apOne; split <;> simp
theorem apOne_len (L : List (Int × Int)) (x : Int × Int) : L.length ≤ (apOne L x).length ∧ (apOne L x).length ≤ L.length + 1 := by
  unfold apOne
  split <;> simp <;> omega
theorem apR_len (L M : List (Int × Int)) : L.length ≤ (apR L M).length ∧ (apR L M).length ≤ L.length + M.length := by
  induction M generalizing L with
  | nil => simp [apR_nil]
  | cons x M ih =>
    have h := ih (apOne L x)
    have k := apOne_len L x
    rw [apR_cons]
    simp only [List.length_cons]
    omega
theorem apR_ne_nil {L M : List (Int × Int)} (h : L ≠ [] ∨ M ≠ []) : apR L M ≠ [] := by
  induction M generalizing L with
  | nil => rcases h with h | h
           · exact h
           · exact absurd rfl h
  | cons x M ih => rw [apR_cons]; exact ih (.inl (apOne_ne_nil L x))

theorem wrap_l (a b : Int) : wrap64 (wrap64 a + b) = wrap64 (a + b) := by unfold wrap64; omega
theorem wrap_r (a b : Int) : wrap64 (a + wrap64 b) = wrap64 (a + b) := by unfold wrap64; omega
theorem wrap_in {a : Int} (h : -9223372036854775808 ≤ a ∧ a ≤ 9223372036854775807) : wrap64 a = a := by unfold wrap64; omega
theorem wrap_range (a : Int) : -9223372036854775808 ≤ wrap64 a ∧ wrap64 a ≤ 9223372036854775807 := by unfold wrap64; omega

/-- onto M: y, then x of the same rope: the same as both at once -/
theorem apOne_two (M : List (Int × Int)) (y x : Int × Int) (h : y.1 = x.1) : apOne (apOne M y) x = apOne M (y.1, wrap64 (y.2 + x.2)) := by
  rcases List.eq_nil_or_concat M with rfl | ⟨m, z, rfl⟩
  · rw [apOne_nil, apOne_nil]
    exact apOne_eq [] y x h
  · rw [List.concat_eq_append]
    by_cases hz : z.1 = y.1
    · rw [apOne_eq m z y hz, apOne_eq m (z.1, _) x (by simpa [hz] using h), apOne_eq m z (y.1, wrap64 (y.2 + x.2)) hz]
      dsimp only
      rw [wrap_l, wrap_r, Int.add_assoc]
    · rw [apOne_ne m z y hz, apOne_ne m z (y.1, wrap64 (y.2 + x.2)) hz, apOne_eq (m ++ [z]) y x h]

theorem apR_one (A B : List (Int × Int)) (x : Int × Int) : apR A (apOne B x) = apOne (apR A B) x := by
  rcases List.eq_nil_or_concat B with rfl | ⟨l, y, rfl⟩
  · rfl
  · rw [List.concat_eq_append]
    by_cases h : y.1 = x.1
    · rw [apOne_eq l y x h, apR_snoc, apR_snoc, apOne_two _ y x h]
    · rw [apOne_ne l y x h, apR_snoc]

/-- ASSOCIATIVE -/
theorem apR_assoc (A B C : List (Int × Int)) : apR (apR A B) C = apR A (apR B C) := by
  induction C generalizing B with
  | nil => rfl
  | cons x C ih => rw [apR_cons, apR_cons, ← apR_one, ih]

/-- what stands ahead of a row that is not empty stays -/
theorem apOne_front (P O : List (Int × Int)) (x : Int × Int) (hO : O ≠ []) : apOne (P ++ O) x = P ++ apOne O x := by
  rcases List.eq_nil_or_concat O with rfl | ⟨o, y, rfl⟩
  · exact absurd rfl hO
  · rw [List.concat_eq_append, ← List.append_assoc]
    by_cases h : y.1 = x.1
    · rw [apOne_eq _ y x h, apOne_eq _ y x h, List.append_assoc]
    · rw [apOne_ne _ y x h, apOne_ne _ y x h]; simp
theorem apR_front (P O M : List (Int × Int)) (hO : O ≠ []) : apR (P ++ O) M = P ++ apR O M := by
  induction M generalizing O with
  | nil => rfl
  | cons x M ih => rw [apR_cons, apR_cons, apOne_front P O x hO, ih _ (apOne_ne_nil O x)]

/-- all but the last -/
def sI (A : List (Int × Int)) : Nat := A.length - 1

/-- appendRuns: all but the last stays, the rest is merged -/
theorem apR_split (A B : List (Int × Int)) : apR A B = A.take (sI A) ++ apR [] ((A ++ B).drop (sI A)) := by
  unfold sI
  rcases List.eq_nil_or_concat A with rfl | ⟨a, y, rfl⟩
  · simp
  · rw [List.concat_eq_append]
    have e1 : (a ++ [y]).length - 1 = a.length := by simp
    rw [e1, List.take_left, List.append_assoc, List.drop_left, apR_front a [y] B (by simp)]
    rfl

/-- no neighbours of one rope -/
def nn : List (Int × Int) → Prop
  | [] => True
  | [_] => True
  | x :: y :: r => x.1 ≠ y.1 ∧ nn (y :: r)

theorem nn_iff (G : List (Int × Int)) : nn G ↔ ∀ i, i + 1 < G.length → rR G i ≠ rR G (i + 1) := by
  induction G with
  | nil => simp [nn]
  | cons x G ih =>
    cases G with
    | nil => simp [nn]
    | cons y r =>
      unfold nn
      rw [ih]
      constructor
      · rintro ⟨h1, h2⟩ i hi
        cases i with
        | zero => simpa [rR, List.getD] using h1
        | succ i => have := h2 i (by simp at hi ⊢; omega); simpa [rR, List.getD] using this
      · intro h
        refine ⟨?_, fun i hi => ?_⟩
        · have := h 0 (by simp); simpa [rR, List.getD] using this
        · have := h (i + 1) (by simp at hi ⊢; omega); simpa [rR, List.getD] using this

theorem rR_app_l {l m : List (Int × Int)} {i : Nat} (h : i < l.length) : rR (l ++ m) i = rR l i := by simp [rR, List.getD, List.getElem?_append_left h]
theorem rR_app_r {l m : List (Int × Int)} (i : Nat) : rR (l ++ m) (l.length + i) = rR m i := by simp [rR, List.getD, List.getElem?_append_right]
theorem rN_app_l {l m : List (Int × Int)} {i : Nat} (h : i < l.length) : rN (l ++ m) i = rN l i := by simp [rN, List.getD, List.getElem?_append_left h]

theorem nn_snoc {l : List (Int × Int)} {y x : Int × Int} (h : nn (l ++ [y])) (hne : y.1 ≠ x.1) : nn (l ++ [y] ++ [x]) := by
  rw [nn_iff] at h ⊢
  intro i hi
  simp only [List.length_append, List.length_cons, List.length_nil] at hi h
  by_cases hl : i < l.length
  · have k := h i (by omega)
    have e1 : rR (l ++ [y] ++ [x]) i = rR (l ++ [y]) i := rR_app_l (by simp; omega)
    have e2 : rR (l ++ [y] ++ [x]) (i + 1) = rR (l ++ [y]) (i + 1) := rR_app_l (by simp; omega)
    rw [e1, e2]
    exact k
  · obtain rfl : i = l.length := by omega
    have e1 : rR (l ++ [y] ++ [x]) l.length = rR (l ++ [y]) l.length := rR_app_l (by simp)
    rw [e1, rR_snoc]
    have : rR (l ++ [y] ++ [x]) (l.length + 1) = x.1 := by
      have := rR_snoc (l ++ [y]) x
      simpa using this
    rw [this]
    exact hne
theorem nn_last {l : List (Int × Int)} {y z : Int × Int} (h : nn (l ++ [y])) (he : y.1 = z.1) : nn (l ++ [z]) := by
  rw [nn_iff] at h ⊢
  intro i hi
  simp only [List.length_append, List.length_cons, List.length_nil] at hi h
  have := h i (by omega)
  rw [rR_app_l (by omega)] at this ⊢
  by_cases hl : i + 1 < l.length
  · rw [rR_app_l hl] at this ⊢
    exact this
  · have e : i + 1 = l.length := by omega
    rw [e, rR_snoc] at this ⊢
    rw [← he]
    exact this
theorem nn_one {G : List (Int × Int)} (h : nn G) (x : Int × Int) : nn (apOne G x) := by
  rcases List.eq_nil_or_concat G with rfl | ⟨l, y, rfl⟩
  · exact True.intro
  · rw [List.concat_eq_append] at h ⊢
    by_cases e : y.1 = x.1
    · rw [apOne_eq l y x e]; exact nn_last h rfl
    · rw [apOne_ne l y x e]; exact nn_snoc h e
theorem nn_apR {G : List (Int × Int)} (h : nn G) (M : List (Int × Int)) : nn (apR G M) := by
  induction M generalizing G with
  | nil => exact h
  | cons x M ih => exact ih (nn_one h x)

/-- the count of all, as sumRuns tells it -/
def tot : List (Int × Int) → Int
  | [] => 0
  | p :: r => p.2 + tot r
theorem tot_app (l m : List (Int × Int)) : tot (l ++ m) = tot l + tot m := by
  induction l with
  | nil => simp [tot]
  | cons p l ih => simp [tot, ih, Int.add_assoc]
theorem tot_one (L : List (Int × Int)) (x : Int × Int) : wrap64 (tot (apOne L x)) = wrap64 (tot L + x.2) := by
  rcases List.eq_nil_or_concat L with rfl | ⟨l, y, rfl⟩
  · simp [apOne_nil, tot]
  · rw [List.concat_eq_append]
    by_cases e : y.1 = x.1
    · rw [apOne_eq l y x e, tot_app, tot_app]
      simp only [tot, Int.add_zero]
      rw [wrap_r, Int.add_assoc]
    · rw [apOne_ne l y x e, tot_app]
      simp [tot]
theorem tot_apR (L M : List (Int × Int)) : wrap64 (tot (apR L M)) = wrap64 (tot L + tot M) := by
  induction M generalizing L with
  | nil => simp [apR_nil, tot]
  | cons x M ih => rw [apR_cons, ih, ← wrap_l, tot_one, wrap_l]; simp [tot, Int.add_assoc]

/-- every count within its range stays so -/
theorem okA {L : List (Int × Int)} (h : ∀ p ∈ L, -9223372036854775808 ≤ p.2 ∧ p.2 ≤ 9223372036854775807) {j : Nat} (hj : j < L.length) : -9223372036854775808 ≤ rN L j ∧ rN L j ≤ 9223372036854775807 := by
  have : rN L j = (L[j]).2 := by simp [rN, List.getD, hj]
  rw [this]
  exact h _ (List.getElem_mem hj)

end Go.Proofs.Qxb6617377a
