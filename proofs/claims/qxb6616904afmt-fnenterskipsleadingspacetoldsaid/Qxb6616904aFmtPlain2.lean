/-
  PLAIN: the reader's state, and what Enter and More make of it.
-/
import Derived.Test.Qxb6616904aFmtPlain
namespace Go.Proofs.Qxb6616904aFmt

/-- where the reader stands; whether it has failed; the levels that it is in, outermost first: the byte that closes each, and whether it has had an item -/
structure RS where
  pos : Nat
  err : Bool
  lv : List (Int × Bool)

/-- Enter, of a reader that has not failed -/
def enter (D : List Int) (s : RS) : RS :=
  if (pk D (skip D s.pos) = 91 ∨ pk D (skip D s.pos) = 123) ∧ s.lv.length ≠ 10000 then ⟨skip D s.pos + 1, false, s.lv ++ [(closer (pk D (skip D s.pos)), false)]⟩
  else ⟨skip D s.pos, true, s.lv⟩

/-- More: what it says, and the reader behind it -/
def more (D : List Int) (s : RS) : Bool × RS :=
  if s.err = true then (false, s)
  else match s.lv.getLast? with
    | none => (false, s)
    | some (x, it) =>
      if pk D (skip D s.pos) = x then (false, ⟨skip D s.pos + 1, false, s.lv.dropLast⟩)
      else if it = false then (true, ⟨skip D s.pos, false, s.lv.dropLast ++ [(x, true)]⟩)
      else if pk D (skip D s.pos) = 44 then (true, ⟨skip D (skip D s.pos + 1), false, s.lv.dropLast ++ [(x, true)]⟩)
      else (false, ⟨skip D s.pos, true, s.lv⟩)

/-- what holds of every reader on the roads -/
structure RS.ok (D : List Int) (s : RS) : Prop where
  pos : s.pos ≤ D.length
  depth : s.lv.length ≤ 10000
  ends : ∀ x ∈ s.lv, x.1 = 93 ∨ x.1 = 125

theorem closer_is (c : Int) : closer c = 93 ∨ closer c = 125 := by unfold closer; split <;> simp

theorem pk_pos {D : List Int} {i : Nat} (h : pk D i ≠ 0) : i < D.length := by
  by_cases hi : i < D.length
  · exact hi
  · exact absurd (pk_of_ge hi) h

theorem enter_ok {D : List Int} {s : RS} (h : s.ok D) : (enter D s).ok D := by
  unfold enter
  split
  · rename_i hc
    refine ⟨?_, ?_, ?_⟩
    · exact pk_pos (by rcases hc.1 with h | h <;> rw [h] <;> decide)
    · have := h.depth; simp; omega
    · intro x hx
      rcases List.mem_append.1 hx with hx | hx
      · exact h.ends x hx
      · simp at hx; subst hx; exact closer_is _
  · exact ⟨skip_le h.pos, h.depth, h.ends⟩

theorem more_ok {D : List Int} {s : RS} (h : s.ok D) : (more D s).2.ok D := by
  unfold more
  split
  · exact h
  · split
    · exact h
    · rename_i x it hx
      have hne : s.lv ≠ [] := by intro e; rw [e] at hx; simp at hx
      have hmem : (x, it) ∈ s.lv := List.mem_of_getLast? hx
      have hxx := h.ends _ hmem
      have hd : s.lv.dropLast.length + 1 = s.lv.length := by
        have : s.lv.length ≠ 0 := by simpa using hne
        rw [List.length_dropLast]; omega
      have hends : ∀ y ∈ s.lv.dropLast, y.1 = 93 ∨ y.1 = 125 := fun y hy => h.ends y (List.dropLast_subset _ hy)
      split
      · rename_i hc
        refine ⟨pk_pos (by rw [hc]; intro e; simp only [e] at hxx; omega), ?_, hends⟩
        have := h.depth
        show s.lv.dropLast.length ≤ 10000
        omega
      · split
        · refine ⟨skip_le h.pos, ?_, ?_⟩
          · have := h.depth; simp; omega
          · intro y hy
            rcases List.mem_append.1 hy with hy | hy
            · exact hends y hy
            · simp at hy; subst hy; exact hxx
        · split
          · rename_i hc
            refine ⟨skip_le (pk_pos (by rw [hc]; decide)), ?_, ?_⟩
            · have := h.depth; simp; omega
            · intro y hy
              rcases List.mem_append.1 hy with hy | hy
              · exact hends y hy
              · simp at hy; subst hy; exact hxx
          · exact ⟨skip_le h.pos, h.depth, h.ends⟩

end Go.Proofs.Qxb6616904aFmt
