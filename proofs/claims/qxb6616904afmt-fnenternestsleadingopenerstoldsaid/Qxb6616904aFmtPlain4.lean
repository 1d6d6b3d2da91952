/-
  PLAIN: the leading run of openers; what repeated calls of Enter, and then of More, make of it.
-/
import Derived.Test.Qxb6616904aFmtPlain2
namespace Go.Proofs.Qxb6616904aFmt

/-- the leading run of openers from s on, k having been taken: their closers, the places just past them, where the run stops -/
def loF (D : List Int) : Nat → Nat → Nat → List Int × List Nat × Nat
  | 0, s, _ => ([], [], skip D s)
  | f + 1, s, k =>
    if (pk D (skip D s) = 91 ∨ pk D (skip D s) = 123) ∧ k < 10000 then
      (closer (pk D (skip D s)) :: (loF D f (skip D s + 1) (k + 1)).1, (skip D s + 1) :: (loF D f (skip D s + 1) (k + 1)).2.1, (loF D f (skip D s + 1) (k + 1)).2.2)
    else ([], [], skip D s)

theorem op_lt {D : List Int} {i : Nat} (h : pk D i = 91 ∨ pk D i = 123) : i < D.length := pk_pos (by rcases h with h | h <;> rw [h] <;> decide)

theorem loF_eq (D : List Int) : ∀ f f' s k, D.length - s < f → D.length - s < f' → loF D f s k = loF D f' s k
  | 0, _, _, _ => fun h => by omega
  | f + 1, 0, _, _ => fun _ h => by omega
  | f + 1, f' + 1, s, k => fun h h' => by
    rw [loF, loF]
    by_cases hc : (pk D (skip D s) = 91 ∨ pk D (skip D s) = 123) ∧ k < 10000
    · have hlt := op_lt hc.1
      have hle := le_skip D s
      rw [if_pos hc, if_pos hc, loF_eq D f f' (skip D s + 1) (k + 1) (by omega) (by omega)]
    · rw [if_neg hc, if_neg hc]

def lo (D : List Int) (s k : Nat) : List Int × List Nat × Nat := loF D (D.length + 1) s k

theorem lo_open {D : List Int} {s k : Nat} (h : pk D (skip D s) = 91 ∨ pk D (skip D s) = 123) (hk : k < 10000) :
    lo D s k = (closer (pk D (skip D s)) :: (lo D (skip D s + 1) (k + 1)).1, (skip D s + 1) :: (lo D (skip D s + 1) (k + 1)).2.1, (lo D (skip D s + 1) (k + 1)).2.2) := by
  have hlt := op_lt h
  have e : loF D D.length (skip D s + 1) (k + 1) = loF D (D.length + 1) (skip D s + 1) (k + 1) := loF_eq D _ _ _ _ (by omega) (by omega)
  unfold lo
  rw [loF, if_pos ⟨h, hk⟩, e]

theorem lo_stop {D : List Int} {s k : Nat} (h : ¬ ((pk D (skip D s) = 91 ∨ pk D (skip D s) = 123) ∧ k < 10000)) : lo D s k = ([], [], skip D s) := by
  unfold lo
  rw [loF, if_neg h]

theorem lo_space {D : List Int} {s k : Nat} (h : s < D.length) (hs : spB (pk D s) = true) : lo D s k = lo D (s + 1) k := by
  unfold lo
  rw [loF, loF, skip_step h hs]

theorem loF_facts (D : List Int) : ∀ f s k, k ≤ 10000 → s ≤ D.length → (loF D f s k).1.length = (loF D f s k).2.1.length ∧ k + (loF D f s k).1.length ≤ 10000 ∧ s + (loF D f s k).1.length ≤ D.length ∧ (loF D f s k).2.2 ≤ D.length ∧ (∀ x ∈ (loF D f s k).1, x = 93 ∨ x = 125) ∧ ∀ x ∈ (loF D f s k).2.1, x ≤ D.length
  | 0, s, k => fun h h2 => ⟨rfl, by simpa [loF] using h, by simpa [loF] using h2, skip_le h2, fun x hx => by simp [loF] at hx, fun x hx => by simp [loF] at hx⟩
  | f + 1, s, k => fun h h2 => by
    rw [loF]
    by_cases hc : (pk D (skip D s) = 91 ∨ pk D (skip D s) = 123) ∧ k < 10000
    · have hlt := op_lt hc.1
      have hle := le_skip D s
      obtain ⟨i1, i2, i3, i4, i5, i6⟩ := loF_facts D f (skip D s + 1) (k + 1) (by omega) (by omega)
      rw [if_pos hc]
      refine ⟨by simp [i1], by simp; omega, by simp; omega, i4, fun x hx => ?_, fun x hx => ?_⟩
      · rcases List.mem_cons.1 hx with rfl | hx
        · exact closer_is _
        · exact i5 x hx
      · rcases List.mem_cons.1 hx with rfl | hx
        · omega
        · exact i6 x hx
    · rw [if_neg hc]
      exact ⟨rfl, by simpa using h, by simpa using h2, skip_le h2, fun x hx => by simp at hx, fun x hx => by simp at hx⟩

/-- the whole run -/
def oE (D : List Int) : List Int := (lo D 0 0).1
def oA (D : List Int) : List Nat := (lo D 0 0).2.1
def oS (D : List Int) : Nat := (lo D 0 0).2.2

theorem oA_len (D : List Int) : (oE D).length = (oA D).length := (loF_facts D _ 0 0 (by omega) (by omega)).1
theorem oE_le (D : List Int) : (oE D).length ≤ 10000 := by have := (loF_facts D (D.length + 1) 0 0 (by omega) (by omega)).2.1; simpa [oE, lo] using this
theorem oE_len (D : List Int) : (oE D).length ≤ D.length := by have := (loF_facts D (D.length + 1) 0 0 (by omega) (by omega)).2.2.1; simpa [oE, lo] using this
theorem oS_le (D : List Int) : oS D ≤ D.length := (loF_facts D (D.length + 1) 0 0 (by omega) (by omega)).2.2.2.1
theorem oE_mem {D : List Int} {x : Int} (h : x ∈ oE D) : x = 93 ∨ x = 125 := (loF_facts D (D.length + 1) 0 0 (by omega) (by omega)).2.2.2.2.1 x h
theorem oA_mem {D : List Int} {x : Nat} (h : x ∈ oA D) : x ≤ D.length := (loF_facts D (D.length + 1) 0 0 (by omega) (by omega)).2.2.2.2.2 x h

/-- behind t entries: where the reader stands -/
def At (D : List Int) (t pos : Nat) : Prop := t ≤ (oE D).length ∧ pos ≤ D.length ∧ lo D pos t = ((oE D).drop t, (oA D).drop t, oS D)

theorem At.zero (D : List Int) : At D 0 0 := ⟨Nat.zero_le _, Nat.zero_le _, rfl⟩

/-- the levels behind t entries -/
def lvs (D : List Int) (t : Nat) : List (Int × Bool) := ((oE D).take t).map fun x => (x, false)

theorem lvs_length {D : List Int} {t : Nat} (h : t ≤ (oE D).length) : (lvs D t).length = t := by simp [lvs]; omega

theorem At.step {D : List Int} {t pos : Nat} (h : At D t pos) (ht : t < (oE D).length) :
    enter D ⟨pos, false, lvs D t⟩ = ⟨(oA D).getD t 0, false, lvs D (t + 1)⟩ ∧ At D (t + 1) ((oA D).getD t 0) := by
  obtain ⟨h1, h2, h3⟩ := h
  have hAl := oA_len D
  have hle := oE_le D
  have hc : (pk D (skip D pos) = 91 ∨ pk D (skip D pos) = 123) ∧ t < 10000 := by
    refine Classical.byContradiction fun hc => ?_
    rw [lo_stop hc] at h3
    have := congrArg (fun x => x.1.length) h3
    simp at this
    omega
  rw [lo_open hc.1 hc.2] at h3
  obtain ⟨e1, e2, e3⟩ := Prod.mk.inj h3 |>.imp id (fun h => Prod.mk.inj h)
  rw [List.drop_eq_getElem_cons ht] at e1
  rw [List.drop_eq_getElem_cons (by omega)] at e2
  obtain ⟨a1, a2⟩ := List.cons.inj e1
  obtain ⟨b1, b2⟩ := List.cons.inj e2
  have hA : (oA D).getD t 0 = skip D pos + 1 := by simp [List.getD, show t < (oA D).length by omega, ← b1]
  have hlv : lvs D (t + 1) = lvs D t ++ [(closer (pk D (skip D pos)), false)] := by
    unfold lvs
    rw [List.take_succ_eq_append_getElem ht, List.map_append, ← a1]
    rfl
  refine ⟨?_, by omega, ?_, ?_⟩
  · unfold enter
    rw [if_pos ⟨hc.1, by show (lvs D t).length ≠ 10000; rw [lvs_length h1]; omega⟩, hA, hlv]
  · rw [hA]; exact op_lt hc.1
  · rw [hA]
    exact Prod.ext a2 (Prod.ext b2 e3)

theorem At.last {D : List Int} {pos : Nat} (h : At D (oE D).length pos) : enter D ⟨pos, false, lvs D (oE D).length⟩ = ⟨oS D, true, lvs D (oE D).length⟩ ∧ skip D pos = oS D := by
  obtain ⟨h1, h2, h3⟩ := h
  have hc : ¬ ((pk D (skip D pos) = 91 ∨ pk D (skip D pos) = 123) ∧ (oE D).length < 10000) := by
    intro hc
    rw [lo_open hc.1 hc.2] at h3
    have := congrArg (fun x => x.1.length) h3
    simp at this
  rw [lo_stop hc] at h3
  have hs : skip D pos = oS D := congrArg (fun x => x.2.2) h3
  refine ⟨?_, hs⟩
  unfold enter
  have hl : (lvs D (oE D).length).length = (oE D).length := lvs_length (Nat.le_refl _)
  rw [if_neg (fun h => hc ⟨h.1, by have := h.2; have h10 := oE_le D; rw [hl] at this; omega⟩), hs]

/-- closing the mirrored brackets: from place pos on, m levels being left: where it stops, how many are left -/
def cl (D E : List Int) : Nat → Nat → Nat × Nat
  | 0, pos => (pos, 0)
  | m + 1, pos => if pk D (skip D pos) = E.getD m 0 then cl D E m (skip D pos + 1) else (skip D pos, m + 1)

theorem cl_hit {D E : List Int} {m pos : Nat} (h : pk D (skip D pos) = E.getD m 0) : cl D E (m + 1) pos = cl D E m (skip D pos + 1) := by rw [cl, if_pos h]
theorem cl_miss {D E : List Int} {m pos : Nat} (h : ¬ pk D (skip D pos) = E.getD m 0) : cl D E (m + 1) pos = (skip D pos, m + 1) := by rw [cl, if_neg h]
theorem cl_skip {D E : List Int} {m pos : Nat} : cl D E (m + 1) (skip D pos) = cl D E (m + 1) pos := by rw [cl, cl, skip_skip]

theorem getD_mem {E : List Int} {m : Nat} (h : m < E.length) : E.getD m 0 ∈ E := by simp [List.getD, h]

theorem lvs_succ {D : List Int} {m : Nat} (h : m < (oE D).length) : lvs D (m + 1) = lvs D m ++ [((oE D).getD m 0, false)] := by
  unfold lvs
  rw [List.take_succ_eq_append_getElem h, List.map_append]
  simp [List.getD, h]

theorem more_hit {D : List Int} {m pos : Nat} (h : m < (oE D).length) (hc : pk D (skip D pos) = (oE D).getD m 0) : more D ⟨pos, false, lvs D (m + 1)⟩ = (false, ⟨skip D pos + 1, false, lvs D m⟩) := by
  unfold more
  rw [if_neg (by simp), lvs_succ h]
  simp only [List.getLast?_append, List.getLast?_singleton, Option.some_or, List.dropLast_concat]
  rw [if_pos hc]

theorem more_miss {D : List Int} {m pos : Nat} (h : m < (oE D).length) (hc : ¬ pk D (skip D pos) = (oE D).getD m 0) : more D ⟨pos, false, lvs D (m + 1)⟩ = (true, ⟨skip D pos, false, lvs D m ++ [((oE D).getD m 0, true)]⟩) := by
  unfold more
  rw [if_neg (by simp), lvs_succ h]
  simp only [List.getLast?_append, List.getLast?_singleton, Option.some_or, List.dropLast_concat]
  rw [if_neg hc, if_pos trivial]

end Go.Proofs.Qxb6616904aFmt
