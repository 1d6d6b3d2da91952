import Derived.Test.Qxb6617377aW4
namespace Go.Proofs.Qxb6617377a
set_option linter.unusedVariables false
set_option linter.unusedSimpArgs false
open Go.RowKit

theorem zip_self (L : List (Int × Int)) : (L.map Prod.fst).zip (L.map Prod.snd) = L := by
  induction L with
  | nil => rfl
  | cons p L ih => simp [ih]

theorem zip_setN (L : List (Int × Int)) (i : Nat) (h : i < L.length) (y : Int) : (L.map Prod.fst).zip ((L.map Prod.snd).set i y) = L.take i ++ (rR L i, y) :: L.drop (i + 1) := by
  induction L generalizing i with
  | nil => simp at h
  | cons p L ih =>
    cases i with
    | zero => simp [rR, zip_self]
    | succ i =>
      have := ih i (by simpa using h)
      simp only [List.map_cons, List.set_cons_succ, List.zip_cons_cons, List.take_succ_cons, List.drop_succ_cons, List.cons_append]
      rw [this]
      simp [rR]

theorem zip_setR (L : List (Int × Int)) (i : Nat) (h : i < L.length) (x : Int) : ((L.map Prod.fst).set i x).zip (L.map Prod.snd) = L.take i ++ (x, rN L i) :: L.drop (i + 1) := by
  induction L generalizing i with
  | nil => simp at h
  | cons p L ih =>
    cases i with
    | zero => simp [rN, zip_self]
    | succ i =>
      have := ih i (by simpa using h)
      simp only [List.map_cons, List.set_cons_succ, List.zip_cons_cons, List.take_succ_cons, List.drop_succ_cons, List.cons_append]
      rw [this]
      simp [rN]

theorem take_drop_at (L : List (Int × Int)) (i : Nat) (h : i < L.length) : L = L.take i ++ (rR L i, rN L i) :: L.drop (i + 1) := by
  have e : (rR L i, rN L i) = L[i] := by simp [rR, rN, List.getD, h]
  rw [e, ← List.drop_eq_getElem_cons h, List.take_append_drop]

theorem okL_at {L : List (Int × Int)} (h : okL L) {i : Nat} {p : Int × Int} (hp : 0 ≤ p.1 ∧ p.1 ≤ 4294967295) : okL (L.take i ++ p :: L.drop (i + 1)) := by
  intro x hx
  rcases List.mem_append.1 hx with hx | hx
  · exact h x (List.mem_of_mem_take hx)
  · rcases List.mem_cons.1 hx with rfl | hx
    · exact hp
    · exact h x (List.mem_of_mem_drop hx)

/-- the count's top bit flipped -/
theorem slot_count (lv : Nat) (L : List (Int × Int)) (i : Nat) (h : i < L.length) (hlv : lv ≤ 255) (hL : okL L) :
    slot (lv : Int) ((L.map Prod.fst).zip ((L.map Prod.snd).set i (bits .xor .i64 (rN L i) (-9223372036854775808)))) = bits .xor .i64 (slot (lv : Int) L) 2048 := by
  have hr := rR_bd hL i
  have h1 := slot_flip_at lv (L.take i) (L.drop (i + 1)) (rR L i, rN L i) (rR L i, bits .xor .i64 (rN L i) (-9223372036854775808)) hlv (fun x hx => hL x (List.mem_of_mem_take hx)) (fun x hx => hL x (List.mem_of_mem_drop hx)) hr hr (by
    unfold toN
    dsimp only
    rw [bits_xor_i64_min, Nat.xor_assoc])
  rw [← take_drop_at L i h] at h1
  rw [zip_setN L i h]
  exact h1

/-- the rope's top bit flipped -/
theorem slot_rope (lv : Nat) (L : List (Int × Int)) (i : Nat) (h : i < L.length) (hlv : lv ≤ 255) (hL : okL L) :
    slot (lv : Int) (((L.map Prod.fst).set i (bits .xor .u32 (rR L i) 2147483648)).zip (L.map Prod.snd)) = bits .xor .i64 (slot (lv : Int) L) 2048 := by
  have hr := rR_bd hL i
  obtain ⟨e1, e2⟩ := bits_xor_u32 (rR L i) hr
  have h1 := slot_flip_at lv (L.take i) (L.drop (i + 1)) (rR L i, rN L i) (bits .xor .u32 (rR L i) 2147483648, rN L i) hlv (fun x hx => hL x (List.mem_of_mem_take hx)) (fun x hx => hL x (List.mem_of_mem_drop hx)) hr (by dsimp only; rw [e1]; omega) (by
    unfold toN
    dsimp only
    rw [e1, Int.toNat_natCast, rope_flip])
  rw [← take_drop_at L i h] at h1
  rw [zip_setR L i h]
  exact h1

theorem okL_count {L : List (Int × Int)} (hL : okL L) {i : Nat} (h : i < L.length) (y : Int) : okL ((L.map Prod.fst).zip ((L.map Prod.snd).set i y)) := by
  rw [zip_setN L i h]
  exact okL_at hL (rR_bd hL i)
theorem okL_rope {L : List (Int × Int)} (hL : okL L) {i : Nat} (h : i < L.length) : okL (((L.map Prod.fst).set i (bits .xor .u32 (rR L i) 2147483648)).zip (L.map Prod.snd)) := by
  rw [zip_setR L i h]
  obtain ⟨e1, e2⟩ := bits_xor_u32 (rR L i) (rR_bd hL i)
  exact okL_at hL (by dsimp only; rw [e1]; omega)

theorem nth_set (X : List Int) (i j : Nat) (v : Int) (hj : j < X.length) : nth (X.set i v) j = if j = i then v else nth X j := by
  unfold nth
  by_cases e : j = i
  · subst e
    simp [List.getD, hj]
  · simp [List.getD, List.getElem?_set, hj, e, Ne.symm e]

theorem Sp.rows {w : World} {ra na : Option Addr} {X Y : List Int} (h : Sp w ra na X Y) (hpos : 0 < X.length) :
    ∃ g1 g2, ra = some ⟨g1, 0, none⟩ ∧ na = some ⟨g2, 0, none⟩ ∧ g1 ≠ g2 ∧ w.rowIs g1 30 X.length (fun j => .int .u32 (nth X j)) ∧ w.rowIs g2 2 Y.length (fun j => .int .i64 (nth Y j)) := by
  obtain ⟨hl, _, hX, hY⟩ := h
  rcases hX with ⟨_, rfl⟩ | ⟨g1, rfl, hX⟩
  · simp at hpos
  · rcases hY with ⟨_, rfl⟩ | ⟨g2, rfl, hY⟩
    · simp at hl; rw [hl] at hpos; simp at hpos
    · refine ⟨g1, g2, rfl, rfl, ?_, hX, hY⟩
      rintro rfl
      obtain ⟨c1, h1, _⟩ := hX
      obtain ⟨c2, h2, _⟩ := hY
      rw [h1] at h2
      cases h2

theorem Sp.setN {w : World} {g1 g2 : Nat} {X Y : List Int} (h : Sp w (some ⟨g1, 0, none⟩) (some ⟨g2, 0, none⟩) X Y) (hpos : 0 < X.length) (i : Nat) (v : Int) :
    Sp (w.setCell ⟨g2, i, none⟩ (.int .i64 v)) (some ⟨g1, 0, none⟩) (some ⟨g2, 0, none⟩) X (Y.set i v) := by
  obtain ⟨g1', g2', e1, e2, hne, h1, h2⟩ := h.rows hpos
  cases e1
  cases e2
  refine ⟨by simpa using h.1, by simp, .inr ⟨g1, rfl, h1.setOther hne _⟩, .inr ⟨g2, rfl, ?_⟩⟩
  rw [List.length_set]
  exact (h2.set i _).congr (fun j hj => by rw [nth_set Y i j v hj]; split <;> rfl)

theorem Sp.setR {w : World} {g1 g2 : Nat} {X Y : List Int} (h : Sp w (some ⟨g1, 0, none⟩) (some ⟨g2, 0, none⟩) X Y) (hpos : 0 < X.length) (i : Nat) (v : Int) :
    Sp (w.setCell ⟨g1, i, none⟩ (.int .u32 v)) (some ⟨g1, 0, none⟩) (some ⟨g2, 0, none⟩) (X.set i v) Y := by
  obtain ⟨g1', g2', e1, e2, hne, h1, h2⟩ := h.rows hpos
  cases e1
  cases e2
  refine ⟨by simpa using h.1, by simp, .inr ⟨g1, rfl, ?_⟩, .inr ⟨g2, rfl, h2.setOther hne.symm _⟩⟩
  rw [List.length_set]
  exact (h1.set i _).congr (fun j hj => by rw [nth_set X i j v hj]; split <;> rfl)

end Go.Proofs.Qxb6617377a
