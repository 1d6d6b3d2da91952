/-
  What blockMerge's loops keep, in plain words; the own rows it builds.
-/
import Derived.Test.Qxb6617377aW9
import Derived.Deep.DeepAppendRoom
namespace Go.Proofs.Qxb6617377a
set_option linter.unusedVariables false
set_option linter.unusedSimpArgs false
open Go.RowKit

theorem drop_step (Z : List (Int × Int)) (j : Nat) (h : j < Z.length) : Z.drop j = (rR Z j, rN Z j) :: Z.drop (j + 1) := by
  have e : Z[j] = (rR Z j, rN Z j) := by simp [rR, rN, List.getD, h]
  rw [List.drop_eq_getElem_cons h, e]

/-- outer loop, at q: O merged already -/
def BO (Z G : List (Int × Int)) (q : Nat) (O : List (Int × Int)) : Prop := apR O (Z.drop q) = G ∧ (∀ o y, O = o ++ [y] → q < Z.length → y.1 ≠ rR Z q)
/-- inner loop, at j: s counted since q -/
def BI (Z G : List (Int × Int)) (q j : Nat) (s : Int) (O : List (Int × Int)) : Prop := (j = q ∧ s = 0 ∧ BO Z G q O) ∨ (q < j ∧ apR (O ++ [(rR Z q, s)]) (Z.drop j) = G)

theorem BO.start (Z : List (Int × Int)) (S : Nat) : BO Z (apR [] (Z.drop S)) S [] := ⟨rfl, fun o y h => by simp at h⟩
theorem BO.stop {Z G O : List (Int × Int)} {q : Nat} (h : BO Z G q O) (hq : Z.length ≤ q) : O = G := by
  have := h.1
  rw [List.drop_eq_nil_of_le hq, apR_nil] at this
  exact this
theorem BO.inn {Z G O : List (Int × Int)} {q : Nat} (h : BO Z G q O) : BI Z G q q 0 O := .inl ⟨rfl, rfl, h⟩
theorem BI.step {Z G O : List (Int × Int)} {q j : Nat} {s : Int} (h : BI Z G q j s O) (hj : j < Z.length) (e : rR Z j = rR Z q) (hok : -9223372036854775808 ≤ rN Z j ∧ rN Z j ≤ 9223372036854775807) : BI Z G q (j + 1) (wrap64 (s + rN Z j)) O := by
  rcases h with ⟨rfl, rfl, h1, h2⟩ | ⟨hq, h1⟩
  · refine .inr ⟨by omega, ?_⟩
    rw [drop_step Z j hj, apR_cons] at h1
    rw [Int.zero_add, wrap_in hok, ← h1]
    congr 1
    rcases List.eq_nil_or_concat O with rfl | ⟨o, y, rfl⟩
    · rfl
    · rw [List.concat_eq_append] at h2 ⊢
      rw [apOne_ne o y (rR Z j, rN Z j) (h2 o y rfl hj)]
  · refine .inr ⟨by omega, ?_⟩
    rw [drop_step Z j hj, apR_cons, apOne_eq O (rR Z q, s) (rR Z j, rN Z j) e.symm] at h1
    exact h1
theorem BI.out {Z G O : List (Int × Int)} {q j : Nat} {s : Int} (h : BI Z G q j s O) (hq : q < j) (hne : j < Z.length → rR Z q ≠ rR Z j) : BO Z G j (O ++ [(rR Z q, s)]) := by
  rcases h with ⟨rfl, _⟩ | ⟨_, h1⟩
  · omega
  · refine ⟨h1, fun o y e hj => ?_⟩
    obtain ⟨_, rfl⟩ := List.append_inj' e rfl |>.imp id (fun h => (List.cons.inj h).1)
    exact hne hj

/-- a row of n runs in block g that the call owns -/
def Ox (w : World) (B g C n : Nat) (Z : List (Int × Int)) : Prop := Z.length = n ∧ w.ownsRow B 36 2 (.slice (some ⟨g, 0, none⟩) n C) n (fl Z)

theorem Ox.cells {w : World} {B g C n : Nat} {Z : List (Int × Int)} (h : Ox w B g C n Z) {j : Nat} (hj : j < n) : w.cell? ⟨g, j * 2, none⟩ = some (.int .u32 (rR Z j)) ∧ w.cell? ⟨g, j * 2 + 1, none⟩ = some (.int .i64 (rN Z j)) := by
  have hl := h.1
  refine ⟨?_, ?_⟩
  · rw [h.2.cellAt (j * 2) (by omega), (fl_get Z j (by omega)).1]
  · rw [h.2.cellAt (j * 2 + 1) (by omega), (fl_get Z j (by omega)).2]
theorem Ox.made (w : World) (B C : Nat) (cur : Array Value) (hB : B ≤ w.heap.size) (hC : C ≤ 1048576) (hc : cur.size = C * 2) : Ox (w.alloc (.cells cur 36)) B w.heap.size C 0 [] :=
  ⟨rfl, World.ownsRow_made w cur C hB (by unfold maxLen; omega) hc⟩
theorem Ox.alloc {w : World} {B g C n : Nat} {Z : List (Int × Int)} (h : Ox w B g C n Z) (o : Obj) : Ox (w.alloc o) B g C n Z := ⟨h.1, World.ownsRow.alloc h.2 o⟩
theorem Ox.drewN {w : World} {B g C n k : Nat} {Z : List (Int × Int)} (h : Ox w B g C n Z) : Ox (w.drewN k) B g C n Z := h
theorem Ox.lt {w : World} {B g C n : Nat} {Z : List (Int × Int)} (h : Ox w B g C n Z) : B ≤ g ∧ g < w.heap.size := World.ownsRow.lt h.2 g rfl
theorem Ox.pushed {w : World} {B g C n : Nat} {Z : List (Int × Int)} {w' : World} {r m : Int} (h : Z.length = n) (hown : w'.ownsRow B 36 2 (.slice (some ⟨g, 0, none⟩) (n + 1) C) (n + 1) (fl Z ++ [.int .u32 r, .int .i64 m])) : Ox w' B g C (n + 1) (Z ++ [(r, m)]) :=
  ⟨by simp [h], by rw [fl_app]; exact hown⟩
theorem Ox.kept {w w' : World} {B g C n g' : Nat} {Z : List (Int × Int)} (h : Ox w B g C n Z) (hg : w.grownBy w' (some g')) (hne : g ≠ g') : Ox w' B g C n Z :=
  ⟨h.1, World.ownsRow.kept h.2 hg (.inr (by simp [Value.ownBlock]; exact hne))⟩
theorem Ox.ro {w : World} {B g C n : Nat} {Z : List (Int × Int)} (h : Ox w B g C n Z) : Ro w (some ⟨g, 0, none⟩) Z := by
  refine ⟨(fun e => by cases e), fun i hi => ⟨g, 0, rfl, ?_, ?_⟩⟩
  · have := (h.cells (j := i) (by have := h.1; omega)).1
    simpa using this
  · have := (h.cells (j := i) (by have := h.1; omega)).2
    simpa using this

end Go.Proofs.Qxb6617377a
