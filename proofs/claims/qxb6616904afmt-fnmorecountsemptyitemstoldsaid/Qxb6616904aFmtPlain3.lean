/-
  PLAIN: a run of commas and white space behind an opener, and what repeated calls of More make of it.
-/
import Derived.Test.Qxb6616904aFmtPlain2
namespace Go.Proofs.Qxb6616904aFmt

/-- a comma or white space stands at j -/
def cs (D : List Int) (j : Nat) : Prop := j < D.length ∧ (pk D j = 44 ∨ spB (pk D j) = true)

def cendN (D : List Int) : Nat → Nat → Nat
  | 0, j => j
  | f + 1, j => if j < D.length ∧ (pk D j = 44 ∨ spB (pk D j) = true) then cendN D f (j + 1) else j
def ccntN (D : List Int) : Nat → Nat → Nat
  | 0, _ => 0
  | f + 1, j => if j < D.length ∧ (pk D j = 44 ∨ spB (pk D j) = true) then (if pk D j = 44 then 1 else 0) + ccntN D f (j + 1) else 0

/-- where the run of commas and white space from j on stops; how many commas it holds -/
def cend (D : List Int) (j : Nat) : Nat := cendN D (D.length - j) j
def ccnt (D : List Int) (j : Nat) : Nat := ccntN D (D.length - j) j

theorem cend_step {D : List Int} {j : Nat} (h : j < D.length) (hc : pk D j = 44 ∨ spB (pk D j) = true) : cend D j = cend D (j + 1) := by
  unfold cend
  obtain ⟨f, hf⟩ : ∃ f, D.length - j = f + 1 := ⟨D.length - j - 1, by omega⟩
  rw [hf, cendN, if_pos ⟨h, hc⟩, show D.length - (j + 1) = f by omega]
theorem ccnt_step {D : List Int} {j : Nat} (h : j < D.length) (hc : pk D j = 44 ∨ spB (pk D j) = true) : ccnt D j = (if pk D j = 44 then 1 else 0) + ccnt D (j + 1) := by
  unfold ccnt
  obtain ⟨f, hf⟩ : ∃ f, D.length - j = f + 1 := ⟨D.length - j - 1, by omega⟩
  rw [hf, ccntN, if_pos ⟨h, hc⟩, show D.length - (j + 1) = f by omega]
theorem cend_stop {D : List Int} {j : Nat} (h : ¬ (j < D.length ∧ (pk D j = 44 ∨ spB (pk D j) = true))) : cend D j = j := by
  unfold cend
  cases hf : D.length - j with
  | zero => rfl
  | succ f => rw [cendN, if_neg h]
theorem ccnt_stop {D : List Int} {j : Nat} (h : ¬ (j < D.length ∧ (pk D j = 44 ∨ spB (pk D j) = true))) : ccnt D j = 0 := by
  unfold ccnt
  cases hf : D.length - j with
  | zero => rfl
  | succ f => rw [ccntN, if_neg h]

theorem ccntN_le (D : List Int) : ∀ f j, ccntN D f j ≤ f
  | 0, _ => Nat.le_refl _
  | f + 1, j => by
    rw [ccntN]
    have := ccntN_le D f (j + 1)
    split
    · split <;> omega
    · omega
theorem ccnt_le (D : List Int) (j : Nat) : ccnt D j ≤ D.length - j := ccntN_le D _ j

theorem spB_44 : spB 44 = false := rfl

theorem cend_skipN (D : List Int) : ∀ f i, cend D (skipN D f i) = cend D i ∧ ccnt D (skipN D f i) = ccnt D i
  | 0, _ => ⟨rfl, rfl⟩
  | f + 1, i => by
    rw [skipN]
    split
    · rename_i h
      have ih := cend_skipN D f (i + 1)
      refine ⟨ih.1.trans (cend_step h.1 (.inr h.2)).symm, ih.2.trans ?_⟩
      rw [ccnt_step h.1 (.inr h.2), if_neg (fun e => by rw [e] at h; exact absurd h.2 (by decide))]
      omega
    · exact ⟨rfl, rfl⟩
theorem cend_skip (D : List Int) (i : Nat) : cend D (skip D i) = cend D i := (cend_skipN D _ i).1
theorem ccnt_skip (D : List Int) (i : Nat) : ccnt D (skip D i) = ccnt D i := (cend_skipN D _ i).2

theorem cendN_bounds (D : List Int) : ∀ f j, j ≤ cendN D f j ∧ (j ≤ D.length → cendN D f j ≤ D.length)
  | 0, _ => ⟨Nat.le_refl _, fun h => h⟩
  | f + 1, j => by
    rw [cendN]
    split
    · rename_i h
      have := cendN_bounds D f (j + 1)
      exact ⟨by omega, fun _ => this.2 (by omega)⟩
    · exact ⟨Nat.le_refl _, fun h => h⟩
theorem le_cend (D : List Int) (j : Nat) : j ≤ cend D j := (cendN_bounds D _ j).1
theorem cend_le {D : List Int} {j : Nat} (h : j ≤ D.length) : cend D j ≤ D.length := (cendN_bounds D _ j).2 h

/-- the state of the reader behind n calls of More that said true, the opener at P - 1, e its closer -/
def St (D : List Int) (P : Nat) (e : Int) (s : RS) (n : Nat) : Prop :=
  (n = 0 ∧ s = ⟨P, false, [(e, false)]⟩) ∨ ∃ m q, n = m + 1 ∧ s = ⟨q, false, [(e, true)]⟩ ∧ q ≤ D.length ∧ skip D q = q ∧ cend D q = cend D P ∧ m + ccnt D q = ccnt D P ∧ ¬ (pk D (cend D P) = e ∧ ccnt D P = 0)

theorem e_not {e : Int} (he : e = 93 ∨ e = 125) : e ≠ 44 ∧ spB e = false ∧ e ≠ 0 := by rcases he with rfl | rfl <;> decide

theorem St.le {D : List Int} {P : Nat} {e : Int} {s : RS} {n : Nat} (h : St D P e s n) (hP : 1 ≤ P) (hPl : P ≤ D.length) : n ≤ D.length := by
  have := ccnt_le D P
  rcases h with ⟨rfl, _⟩ | ⟨m, q, rfl, _, _, _, _, h, _⟩ <;> omega

/-- how it ends -/
def fin (D : List Int) (P : Nat) (e : Int) : RS := if pk D (cend D P) = e then ⟨cend D P + 1, false, []⟩ else ⟨cend D P, true, [(e, true)]⟩
def wantN (D : List Int) (P : Nat) (e : Int) : Nat := if pk D (cend D P) = e ∧ ccnt D P = 0 then 0 else ccnt D P + 1

theorem stops_at {D : List Int} {q : Nat} {e : Int} (he : e = 93 ∨ e = 125) (hc : pk D q = e) : cend D q = q ∧ ccnt D q = 0 := by
  have hn := e_not he
  have : ¬ (q < D.length ∧ (pk D q = 44 ∨ spB (pk D q) = true)) := by
    rw [hc]
    rintro ⟨_, h | h⟩
    · exact hn.1 h
    · rw [hn.2.1] at h; cases h
  exact ⟨cend_stop this, ccnt_stop this⟩

theorem stops_other {D : List Int} {q : Nat} (hs : skip D q = q) (hc : pk D q ≠ 44) : cend D q = q ∧ ccnt D q = 0 := by
  have hq := skip_not D q
  rw [hs] at hq
  have : ¬ (q < D.length ∧ (pk D q = 44 ∨ spB (pk D q) = true)) := by
    rintro ⟨_, h | h⟩
    · exact hc h
    · rw [hq] at h; cases h
  exact ⟨cend_stop this, ccnt_stop this⟩

theorem more_lone (D : List Int) (p : Nat) (e : Int) (b : Bool) : more D ⟨p, false, [(e, b)]⟩ =
    if pk D (skip D p) = e then (false, ⟨skip D p + 1, false, []⟩)
      else if b = false then (true, ⟨skip D p, false, [(e, true)]⟩)
      else if pk D (skip D p) = 44 then (true, ⟨skip D (skip D p + 1), false, [(e, true)]⟩)
      else (false, ⟨skip D p, true, [(e, b)]⟩) := by
  unfold more
  rw [if_neg (by simp)]
  rfl

theorem St.step {D : List Int} {P : Nat} {e : Int} {s : RS} {n : Nat} (h : St D P e s n) (he : e = 93 ∨ e = 125) (hPl : P ≤ D.length) :
    ((more D s).1 = true ∧ St D P e (more D s).2 (n + 1)) ∨ ((more D s).1 = false ∧ n = wantN D P e ∧ (more D s).2 = fin D P e) := by
  rcases h with ⟨rfl, rfl⟩ | ⟨m, q, rfl, rfl, hql, hq, hce, hcc, hnz⟩
  · rw [more_lone]
    by_cases c1 : pk D (skip D P) = e
    · rw [if_pos c1]
      obtain ⟨a, b⟩ := stops_at he c1
      rw [cend_skip] at a
      rw [ccnt_skip] at b
      refine .inr ⟨rfl, ?_, ?_⟩
      · rw [wantN, if_pos ⟨by rw [a]; exact c1, b⟩]
      · rw [fin, if_pos (by rw [a]; exact c1), a]
    · rw [if_neg c1, if_pos rfl]
      refine .inl ⟨rfl, .inr ⟨0, skip D P, rfl, rfl, skip_le hPl, skip_skip D P, cend_skip D P, by rw [ccnt_skip]; omega, ?_⟩⟩
      rintro ⟨x, y⟩
      by_cases c2 : pk D (skip D P) = 44
      · have hlt : skip D P < D.length := pk_pos (by rw [c2]; decide)
        have := ccnt_step hlt (.inl c2)
        rw [ccnt_skip, if_pos c2] at this
        omega
      · have := (stops_other (skip_skip D P) c2).1
        rw [cend_skip] at this
        rw [this] at x
        exact c1 x
  · rw [more_lone, hq]
    by_cases c1 : pk D q = e
    · rw [if_pos c1]
      obtain ⟨a, b⟩ := stops_at he c1
      rw [hce] at a
      refine .inr ⟨rfl, ?_, ?_⟩
      · rw [wantN, if_neg hnz]; omega
      · rw [fin, if_pos (by rw [a]; exact c1), a]
    · rw [if_neg c1, if_neg (by simp)]
      by_cases c2 : pk D q = 44
      · rw [if_pos c2]
        have hlt : q < D.length := pk_pos (by rw [c2]; decide)
        have h1 := cend_step hlt (.inl c2)
        have h2 := ccnt_step hlt (.inl c2)
        rw [if_pos c2] at h2
        refine .inl ⟨rfl, .inr ⟨m + 1, skip D (q + 1), rfl, rfl, skip_le hlt, skip_skip D _, ?_, ?_, hnz⟩⟩
        · rw [cend_skip, ← h1, hce]
        · rw [ccnt_skip]; omega
      · rw [if_neg c2]
        obtain ⟨a, b⟩ := stops_other hq c2
        rw [hce] at a
        refine .inr ⟨rfl, ?_, ?_⟩
        · rw [wantN, if_neg hnz]; omega
        · rw [fin, if_neg (by rw [a]; exact c1), a]

theorem fin_more (D : List Int) (P : Nat) (e : Int) : more D (fin D P e) = (false, fin D P e) := by
  unfold fin
  split <;> rfl

end Go.Proofs.Qxb6616904aFmt
