import Derived.Test.Qxb6616904aFmtW5
import Derived.Deep.AppendSrc
namespace Go.Proofs.Qxb6616904aFmt
set_option linter.unusedVariables false
set_option linter.unusedSimpArgs false
open Go.RowKit Go.Extern.Stop Go.Stop Go.Extern

def zlv : Value := .agg #[.int .u8 0, .bool false, .slice none 0 0, .slice none 0 0]
theorem info55 : (Tryf.prog.info? 55).map (fun i => (i.zero, i.size, i.bytes)) = some (some zlv, 4, 56) := by kernel_rfl

theorem zlv_cells : zlv.cells = #[.int .u8 0, .bool false, .slice none 0 0, .slice none 0 0] := rfl

theorem zeroCells_at (n i : Nat) (h : i < n * 4) : (Builtin.zeroCells zlv.cells n)[i]? = some (#[Value.int .u8 0, .bool false, .slice none 0 0, .slice none 0 0][i % 4]!) := by
  rw [zlv_cells]
  simp [Builtin.zeroCells, h]

/-- the cells of the new row -/
def lvArr (g : Nat → Value) (n C : Nat) : Array Value := ((List.range (n * 4)).map g ++ [Value.int .u8 0, .bool false, .slice none 0 0, .slice none 0 0]).toArray ++ Builtin.zeroCells zlv.cells (C - (n + 1))

theorem lvArr_size (g : Nat → Value) (n C : Nat) (h : n + 1 ≤ C) : (lvArr g n C).size = C * 4 := by
  unfold lvArr
  rw [Array.size_append, List.size_toArray, size_zeroCells, zlv_cells]
  simp
  omega

theorem lvArr_old (g : Nat → Value) (n C j : Nat) (h : j < n * 4) : (lvArr g n C).getD j undef = g j := by
  have : (lvArr g n C)[j]? = some (g j) := by
    unfold lvArr
    rw [Array.getElem?_append, if_pos (by simp; omega)]
    simp [List.getElem?_append, h]
  rw [Array.getD_eq_getD_getElem?, this]; rfl

theorem lvArr_fresh (g : Nat → Value) (n C j : Nat) (h1 : n * 4 ≤ j) (h2 : j < C * 4) : (lvArr g n C).getD j undef = #[Value.int .u8 0, .bool false, .slice none 0 0, .slice none 0 0][j % 4]! := by
  have : (lvArr g n C)[j]? = some (#[Value.int .u8 0, .bool false, .slice none 0 0, .slice none 0 0][j % 4]!) := by
    unfold lvArr
    rw [Array.getElem?_append]
    by_cases h : j < n * 4 + 4
    · rw [if_pos (by simp; omega)]
      obtain ⟨d, hd, rfl⟩ : ∃ d, d < 4 ∧ j = n * 4 + d := ⟨j - n * 4, by omega, by omega⟩
      rw [show (n * 4 + d) % 4 = d by omega]
      match d, hd with
      | 0, _ => simp [List.getElem?_append]
      | 1, _ => simp [List.getElem?_append]
      | 2, _ => simp [List.getElem?_append]
      | 3, _ => simp [List.getElem?_append]
    · rw [if_neg (by simp; omega)]
      simp only [List.size_toArray, List.length_append, List.length_map, List.length_range, List.length_cons, List.length_nil]
      rw [zeroCells_at _ _ (by omega)]
      rw [show (j - (n * 4 + (0 + 1 + 1 + 1 + 1))) % 4 = j % 4 by omega]
  rw [Array.getD_eq_getD_getElem?, this]; rfl

theorem lvArr_new (g : Nat → Value) (n C k : Nat) (h1 : n ≤ k) (h2 : k < C) :
    (lvArr g n C).getD (k * 4) undef = .int .u8 0 ∧ (lvArr g n C).getD (k * 4 + 1) undef = .bool false ∧ (lvArr g n C).getD (k * 4 + 2) undef = .slice none 0 0 ∧ (lvArr g n C).getD (k * 4 + 3) undef = .slice none 0 0 := by
  refine ⟨?_, ?_, ?_, ?_⟩
  · rw [lvArr_fresh g n C _ (by omega) (by omega), show k * 4 % 4 = 0 by omega]; rfl
  · rw [lvArr_fresh g n C _ (by omega) (by omega), show (k * 4 + 1) % 4 = 1 by omega]; rfl
  · rw [lvArr_fresh g n C _ (by omega) (by omega), show (k * 4 + 2) % 4 = 2 by omega]; rfl
  · rw [lvArr_fresh g n C _ (by omega) (by omega), show (k * 4 + 3) % 4 = 3 by omega]; rfl

/-- 'append(levels, level{})' where there is no room: a new row; the elder elements, the new one, zero elements up to the new capacity -/
theorem wpList_append_level (w : World) {ops : Array Oper} {rest : List Oper} {o : Oper} {a : Act} {Q : Exit → Act → World → Prop}
    (hg : o.guard = none) (s x : Operand) (hop : o.op = Op.call { callee := Callee.builtin Builtin.append, args := #[s, x], argTypes := #[43, 43] })
    (la : Option Addr) (n : Nat) (g : Nat → Value) (hs : a.eval s = .slice la n n) (hla : la = none ∧ n = 0 ∨ ∃ lb, la = some ⟨lb, 0, none⟩ ∧ w.rowIs lb 55 (n * 4) g) (hn : n ≤ 9999)
    (ad : Nat) (hx : a.eval x = .slice (some ⟨ad, 0, none⟩) 1 1) (had : w.rowIs ad 55 4 (fun j => #[Value.int .u8 0, .bool false, .slice none 0 0, .slice none 0 0][j]!))
    (hK : ∀ C g' w', n + 1 ≤ C → C ≤ 9223372036854775807 → Below w.heap.size w w' → w.heap.size < w'.heap.size → w'.rowIs w.heap.size 55 (C * 4) g' → (∀ j, j < n * 4 → g' j = g j) →
      (∀ k, n ≤ k → k < C → g' (k * 4) = .int .u8 0 ∧ g' (k * 4 + 1) = .bool false ∧ g' (k * 4 + 2) = .slice none 0 0 ∧ g' (k * 4 + 3) = .slice none 0 0) →
      wpList Tryf.prog ops Q rest (a.put o.dst (.slice (some ⟨w.heap.size, 0, none⟩) (n + 1) C)) w') :
    wpList Tryf.prog ops Q (o :: rest) a w := by
  refine wpList_plain hg fun K hK' => ?_
  obtain ⟨i, hi, hz, hz1, hz2⟩ := info_parts info55
  have hnews : ∀ j u, [Value.int .u8 0, .bool false, .slice none 0 0, .slice none 0 0][j]? = some u → w.cell? ((⟨ad, 0, none⟩ : Addr).add j) = some u := by
    intro j u hu
    have hj : j < 4 := by have := (List.getElem?_eq_some_iff.1 hu).1; simpa using this
    rw [Addr.add_lit, Nat.zero_add, had.cell hj]
    match j, hj with
    | 0, _ => simpa using hu
    | 1, _ => simpa using hu
    | 2, _ => simpa using hu
    | 3, _ => simpa using hu
  have hsrc : Src Tryf.prog i.size 43 (.slice (some ⟨ad, 0, none⟩) 1 1) 1 [.int .u8 0, .bool false, .slice none 0 0, .slice none 0 0] w :=
    Src.ofSlice w Tryf.underlying43 _ 1 1 _ (by rw [hz1]; rfl) hnews (by intro u hu; simp at hu; rcases hu with rfl | rfl | rfl | rfl <;> rfl)
  have hold : (Builtin.firstCells i.size n (.slice la n n)).run Tryf.prog w.drew = .ok ((List.range (n * 4)).map g).toArray w.drew := by
    rw [hz1]
    rcases hla with ⟨rfl, rfl⟩ | ⟨lb, rfl, hrow⟩
    · exact run_firstCells_none w.drew 4 0 0 0
    · refine run_firstCells_some w.drew 4 n _ n n _ (by simp) ?_
      intro j v hv
      have hj : j < n * 4 := by have := (List.getElem?_eq_some_iff.1 hv).1; simpa using this
      rw [Addr.add_lit, Nat.zero_add]
      have := hrow.drew.cell hj
      rw [this]
      simp [hj] at hv
      rw [hv]
  have hrun := run_append_grow_src (P := Tryf.prog) w 43 43 o.type 55 i zlv Tryf.underlying43 hi hz la n n _ hold _ 1 _ hsrc (by omega) (by omega) (growslice_fits (by omega) (by rw [hz2]; omega))
  have hge := grownCap_ge w (n + 1) n 55
  have hle := grownCap_le_maxLen w (n + 1) n 55 (by unfold maxLen; omega)
  unfold Oper.wp
  simp [execOp, hop, resolve, invoke, builtin, hs, hx, hrun, Result.andThen]
  generalize grownCap w (n + 1) n 55 = C at hge hle ⊢
  have hsz := lvArr_size g n C hge
  refine hK' _ _ (hK C (fun j => (lvArr g n C).getD j undef) _ hge (by unfold maxLen at hle; omega) ((Below.refl _ _).drew.alloc (Nat.le_refl _) _) (by simp) ?_ ?_ ?_)
  · have := World.rowIs_alloc w.drew (lvArr g n C) 55 (fun j => (lvArr g n C).getD j undef) (fun j hj => by simp [Array.getD, hj])
    rw [hsz] at this
    exact this
  · intro j hj
    exact lvArr_old g n C j hj
  · intro k h1 h2
    exact lvArr_new g n C k h1 h2

end Go.Proofs.Qxb6616904aFmt
