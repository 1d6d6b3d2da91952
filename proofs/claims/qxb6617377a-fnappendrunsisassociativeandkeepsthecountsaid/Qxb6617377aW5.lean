/-
  appendRun.
-/
import Derived.Test.Qxb6617377aApp
import Derived.Test.Qxb6617377aAp
namespace Go.Proofs.Qxb6617377a
set_option linter.unusedVariables false
set_option linter.unusedSimpArgs false
open Go.RowKit

/-- the cells of a row of runs, one after the other -/
def fl (L : List (Int × Int)) : List Value := L.flatMap fun p => [.int .u32 p.1, .int .i64 p.2]
theorem fl_app (l m : List (Int × Int)) : fl (l ++ m) = fl l ++ fl m := by simp [fl]
theorem fl_len (l : List (Int × Int)) : (fl l).length = l.length * 2 := by
  induction l with
  | nil => rfl
  | cons p l ih => rw [show p :: l = [p] ++ l from rfl, fl_app, List.length_append, ih]; simp [fl]; omega
theorem fl_get (L : List (Int × Int)) (j : Nat) (hj : j < L.length) : (fl L)[j * 2]? = some (.int .u32 (rR L j)) ∧ (fl L)[j * 2 + 1]? = some (.int .i64 (rN L j)) := by
  induction L generalizing j with
  | nil => simp at hj
  | cons p l ih =>
    cases j with
    | zero => simp [fl, rR, rN, List.getD]
    | succ j =>
      have h := ih j (by simpa using hj)
      have e : fl (p :: l) = .int .u32 p.1 :: .int .i64 p.2 :: fl l := by simp [fl]
      rw [e, show (j + 1) * 2 = j * 2 + 1 + 1 by omega]
      simp only [List.getElem?_cons_succ]
      refine ⟨?_, ?_⟩
      · rw [h.1]; simp [rR, List.getD]
      · rw [h.2]; simp [rN, List.getD]
theorem fl_set (l : List (Int × Int)) (y : Int × Int) (c : Int) : (fl (l ++ [y])).set (l.length * 2 + 1) (.int .i64 c) = fl (l ++ [(y.1, c)]) := by
  rw [fl_app, fl_app, List.set_append_right _ _ (by rw [fl_len]; omega), fl_len]
  simp [fl]

/-- a slice of runs that the call owns -/
def Og (w : World) (B : Nat) (e : TypeId) (v : Value) (L : List (Int × Int)) : Prop := w.ownsRow B e 2 v L.length (fl L)

/-- the row stays in its block, or goes to a block that was not there -/
def Mv (w : World) (v v' : Value) : Prop := v'.ownBlock = v.ownBlock ∨ ∀ k, v'.ownBlock = some k → w.heap.size ≤ k

theorem grow_trans {w w1 w2 : World} {r : Option Nat} (h : w.grownBy w1 r) (k : w1.grownBy w2 r) : w.grownBy w2 r :=
  ⟨k.os.trans h.os, k.tape.trans h.tape, k.output.trans h.output, Nat.le_trans h.size k.size, fun i hi hr => (k.block i (Nat.lt_of_lt_of_le hi h.size) hr).trans (h.block i hi hr)⟩
theorem grow_drewN {w w1 : World} {r : Option Nat} (n : Nat) (h : w.grownBy w1 r) : w.grownBy (w1.drewN n) r := ⟨h.os, h.tape, h.output, h.size, h.block⟩

theorem Og.form {w : World} {B : Nat} {e : TypeId} {v : Value} {L : List (Int × Int)} (h : Og w B e v L) : (v = .slice none 0 0 ∧ L = []) ∨ ∃ g cap, v = .slice (some ⟨g, 0, none⟩) L.length cap := by
  rcases h.2 with ⟨h1, h2⟩ | ⟨g, cap, _, h1, _⟩
  · exact .inl ⟨h1, List.eq_nil_of_length_eq_zero h2⟩
  · exact .inr ⟨g, cap, h1⟩

theorem alloc_fst (w : World) (a b : Value) (e : TypeId) : (w.alloc (.cells #[a, b] e)).cell? ⟨w.heap.size, 0, none⟩ = some a := by
  rw [cell_of_row _ _ _ _ _ _ (heap_alloc_new w _)]; rfl
theorem alloc_snd (w : World) (a b : Value) (e : TypeId) : (w.alloc (.cells #[a, b] e)).cell? ⟨w.heap.size, 1, none⟩ = some b := by
  rw [cell_of_row _ _ _ _ _ _ (heap_alloc_new w _)]; rfl

set_option maxHeartbeats 4000000 in
theorem appendRun_eq (B g cap : Nat) (l : List (Int × Int)) (y : Int × Int) (r n : Int) (w : World) (hB : B ≤ w.heap.size) (hlen : l.length ≤ 1048576) (heq : (y.1 == r) = true)
    (ho : Hid (Og w B 46 (.slice (some ⟨g, 0, none⟩) (l.length + 1) cap) (l ++ [y]))) :
    Calls Try.prog 22 #[.slice (some ⟨g, 0, none⟩) (l.length + 1) cap, .agg #[.int .u32 r, .int .i64 n]] w fun e w' => e = .returned (.slice (some ⟨g, 0, none⟩) (l.length + 1) cap) ∧
      Og w' B 46 (.slice (some ⟨g, 0, none⟩) (l.length + 1) cap) (l ++ [(y.1, wrap64 (y.2 + n))]) ∧ w.grownBy w' (some g) := by
  have ho1 : w.ownsRow B 46 2 (.slice (some ⟨g, 0, none⟩) (l.length + 1) cap) (l.length + 1) (fl (l ++ [y])) := by have := ho.out; unfold Og at this; simpa using this
  have hg := World.ownsRow.lt ho1 g rfl
  have hc1 : w.cell? ⟨g, l.length * 2, none⟩ = some (.int .u32 y.1) := by
    rw [ho1.cellAt (l.length * 2) (by omega), (fl_get (l ++ [y]) l.length (by simp)).1, rR_snoc]
  have hc2 : w.cell? ⟨g, l.length * 2 + 1, none⟩ = some (.int .i64 y.2) := by
    rw [ho1.cellAt (l.length * 2 + 1) (by omega), (fl_get (l ++ [y]) l.length (by simp)).2, rN_snoc]
  have hf1 := ho1.frozenAt (l.length * 2 + 1)
  have hglt := hg.2
  have hne : ¬ g = w.heap.size := by omega
  have hne2 : ¬ w.heap.size = g := by omega
  have HO := hide ho1
  clear ho1 hg ho
  generalize hm : l.length = m at *
  go_enter Try.func22, Try.ntmps22
  go_wp2
  go_quiet (fail)
  have d1 : ((w.alloc (Obj.cells #[Value.int IntKind.u32 r, Value.int IntKind.i64 n] 46)).drewN nq).cell? ⟨g, m * 2 + 1, none⟩ = some (.int .i64 y.2) := (World.grownBy_alloc w _ none).cell hc2 (by simp)
  have d2 : ((w.alloc (Obj.cells #[Value.int IntKind.u32 r, Value.int IntKind.i64 n] 46)).drewN nq).cell? ⟨w.heap.size, 1, none⟩ = some (.int .i64 n) := alloc_snd w _ _ _
  have d3 : ((w.alloc (Obj.cells #[Value.int IntKind.u32 r, Value.int IntKind.i64 n] 46)).drewN nq).frozen? ⟨g, m * 2 + 1, none⟩ = false := (World.frozen?_of_block ((World.grownBy_alloc w _ none).block g hglt (by simp))).trans hf1
  have d4 : Hid (((w.alloc (Obj.cells #[Value.int IntKind.u32 r, Value.int IntKind.i64 n] 46)).drewN nq).ownsRow B 46 2 (Value.slice (some { block := g, off := 0 }) (m + 1) cap) (m + 1) (fl (l ++ [y]))) := HO.out.alloc _
  have d5 : Hid (w.grownBy ((w.alloc (Obj.cells #[Value.int IntKind.u32 r, Value.int IntKind.i64 n] 46)).drewN nq) (some g)) := grow_drewN nq (World.grownBy_alloc w _ (some g))
  clear hc1 hc2 hf1 HO
  generalize (w.alloc (Obj.cells #[Value.int IntKind.u32 r, Value.int IntKind.i64 n] 46)).drewN nq = W1 at d1 d2 d3 d4 d5 ⊢
  go_wp2
  go_region
  go_wp2
  go_ret
  refine ⟨rfl, ?_, ?_⟩
  · have h := (d4.out.stored (m * 2 + 1) (.int .i64 (wrap64 (y.2 + n)))).1
    have e := fl_set l y (wrap64 (y.2 + n))
    rw [hm] at e
    rw [e] at h
    have hl : (l ++ [(y.1, wrap64 (y.2 + n))]).length = m + 1 := by simp [hm]
    unfold Og
    rw [hl]
    exact h
  · exact grow_drewN 1 (grow_trans d5.out (d4.out.stored (m * 2 + 1) _).2)

set_option maxHeartbeats 4000000 in
theorem appendRun_ne (B g cap : Nat) (l : List (Int × Int)) (y : Int × Int) (r n : Int) (w : World) (hB : B ≤ w.heap.size) (hlen : l.length ≤ 1048576) (heq : (y.1 == r) = false)
    (ho : Hid (Og w B 46 (.slice (some ⟨g, 0, none⟩) (l.length + 1) cap) (l ++ [y]))) :
    Calls Try.prog 22 #[.slice (some ⟨g, 0, none⟩) (l.length + 1) cap, .agg #[.int .u32 r, .int .i64 n]] w fun e w' => ∃ v', e = .returned v' ∧
      Og w' B 46 v' (l ++ [y] ++ [(r, n)]) ∧ w.grownBy w' (some g) ∧ Mv w (.slice (some ⟨g, 0, none⟩) (l.length + 1) cap) v' := by
  have ho1 : w.ownsRow B 46 2 (.slice (some ⟨g, 0, none⟩) (l.length + 1) cap) (l.length + 1) (fl (l ++ [y])) := by have := ho.out; unfold Og at this; simpa using this
  have hg := World.ownsRow.lt ho1 g rfl
  have hc1 : w.cell? ⟨g, l.length * 2, none⟩ = some (.int .u32 y.1) := by
    rw [ho1.cellAt (l.length * 2) (by omega), (fl_get (l ++ [y]) l.length (by simp)).1, rR_snoc]
  have hglt := hg.2
  have hne : ¬ g = w.heap.size := by omega
  have hne2 : ¬ w.heap.size = g := by omega
  have HO := hide ho1
  clear ho1 hg ho
  obtain ⟨i, hi, hz0, hz1, hz2⟩ := info_parts info46
  generalize hm : l.length = m at *
  go_enter Try.func22, Try.ntmps22
  go_wp2
  go_quiet (fail)
  have d1 : ((w.alloc (Obj.cells #[Value.int IntKind.u32 r, Value.int IntKind.i64 n] 46)).drewN nq).cell? ⟨w.heap.size, 0, none⟩ = some (.int .u32 r) := alloc_fst w _ _ _
  have d2 : ((w.alloc (Obj.cells #[Value.int IntKind.u32 r, Value.int IntKind.i64 n] 46)).drewN nq).cell? ⟨w.heap.size, 1, none⟩ = some (.int .i64 n) := alloc_snd w _ _ _
  have d4 : Hid (((w.alloc (Obj.cells #[Value.int IntKind.u32 r, Value.int IntKind.i64 n] 46)).drewN nq).ownsRow B 46 2 (Value.slice (some { block := g, off := 0 }) (m + 1) cap) (m + 1) (fl (l ++ [y]))) := HO.out.alloc _
  have d5 : Hid (w.grownBy ((w.alloc (Obj.cells #[Value.int IntKind.u32 r, Value.int IntKind.i64 n] 46)).drewN nq) (some g)) := grow_drewN nq (World.grownBy_alloc w _ (some g))
  clear hc1 HO
  generalize (w.alloc (Obj.cells #[Value.int IntKind.u32 r, Value.int IntKind.i64 n] 46)).drewN nq = W1 at d1 d2 d4 d5 ⊢
  go_wp2_with (at_builtin; refine wpList_append_own2 rfl (.tmp 33) (.tmp 35) 39 rfl B 46 i zrun 2 16 Try.underlying39 hi hz0 hz1 hz2 rfl (by decide) _ _ _ rfl (d4.out.alloc _) ⟨W1.heap.size, 0, none⟩ 1 1 [.int .u32 r, .int .i64 n] rfl rfl ?ac1 ?ac2 ?ac3 ?ac4 ?ac5 (by decide) ?ak)
  case ac1 => intro j u hj; match j, hj with
    | 0, hj => simp at hj; subst hj; exact alloc_fst W1 _ _ _
    | 1, hj => simp at hj; subst hj; exact alloc_snd W1 _ _ _
  case ac2 => intro u hu; simp at hu; rcases hu with rfl | rfl <;> rfl
  case ac3 => unfold maxLen; omega
  case ac4 => omega
  case ac5 => have := d5.out.size; simp; omega
  case ak =>
    intro v' w1 hown hgrow hmv
    have HOW := hide hown
    have HG := hide hgrow
    have HM := hide hmv
    clear hown hgrow hmv
    go_wp2
    go_ret
    refine ⟨v', rfl, ?_, ?_, ?_⟩
    · have hl : (l ++ [y] ++ [(r, n)]).length = m + 1 + 1 := by simp [hm]
      unfold Og
      rw [hl, fl_app]
      exact HOW.out
    · exact grow_trans d5.out (grow_trans (World.grownBy_alloc W1 _ _) HG.out)
    · rcases HM.out with h | h
      · exact .inl h
      · refine .inr fun k hk => ?_
        rw [h] at hk
        cases hk
        have := d5.out.size
        simp
        omega

end Go.Proofs.Qxb6617377a
