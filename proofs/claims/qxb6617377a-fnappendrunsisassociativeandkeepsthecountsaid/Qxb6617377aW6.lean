/-
  appendRun, all cases; appendRuns.
-/
import Derived.Test.Qxb6617377aW5
namespace Go.Proofs.Qxb6617377a
set_option linter.unusedVariables false
set_option linter.unusedSimpArgs false
open Go.RowKit

set_option maxHeartbeats 4000000 in
theorem appendRun_nil (B : Nat) (a : Option Addr) (cap : Nat) (r n : Int) (w : World) (hB : B ≤ w.heap.size) 
    (ho : Hid (Og w B 46 (.slice a 0 cap) [])) :
    Calls Try.prog 22 #[.slice a 0 cap, .agg #[.int .u32 r, .int .i64 n]] w fun e w' => ∃ v', e = .returned v' ∧
      Og w' B 46 v' [(r, n)] ∧ w.grownBy w' (Value.slice a 0 cap).ownBlock ∧ Mv w (.slice a 0 cap) v' := by
  have ho1 : w.ownsRow B 46 2 (.slice a 0 cap) 0 (fl []) := ho.out
  have HO := hide ho1
  clear ho1 ho
  obtain ⟨i, hi, hz0, hz1, hz2⟩ := info_parts info46
  go_enter Try.func22, Try.ntmps22
  go_wp2
  go_quiet (fail)
  have d1 : ((w.alloc (Obj.cells #[Value.int IntKind.u32 r, Value.int IntKind.i64 n] 46)).drewN nq).cell? ⟨w.heap.size, 0, none⟩ = some (.int .u32 r) := alloc_fst w _ _ _
  have d2 : ((w.alloc (Obj.cells #[Value.int IntKind.u32 r, Value.int IntKind.i64 n] 46)).drewN nq).cell? ⟨w.heap.size, 1, none⟩ = some (.int .i64 n) := alloc_snd w _ _ _
  have d4 : Hid (((w.alloc (Obj.cells #[Value.int IntKind.u32 r, Value.int IntKind.i64 n] 46)).drewN nq).ownsRow B 46 2 (Value.slice a 0 cap) 0 (fl [])) := HO.out.alloc _
  have d5 : Hid (w.grownBy ((w.alloc (Obj.cells #[Value.int IntKind.u32 r, Value.int IntKind.i64 n] 46)).drewN nq) (Value.slice a 0 cap).ownBlock) := grow_drewN nq (World.grownBy_alloc w _ _)
  clear HO
  generalize (w.alloc (Obj.cells #[Value.int IntKind.u32 r, Value.int IntKind.i64 n] 46)).drewN nq = W1 at d1 d2 d4 d5 ⊢
  go_wp2_with (at_builtin; refine wpList_append_own2 rfl (.tmp 33) (.tmp 35) 39 rfl B 46 i zrun 2 16 Try.underlying39 hi hz0 hz1 hz2 rfl (by decide) _ _ _ rfl (d4.out.alloc _) ⟨W1.heap.size, 0, none⟩ 1 1 [.int .u32 r, .int .i64 n] rfl rfl ?ac1 ?ac2 ?ac3 ?ac4 ?ac5 (by decide) ?ak)
  case ac1 => intro j u hj; match j, hj with
    | 0, hj => simp at hj; subst hj; exact alloc_fst W1 _ _ _
    | 1, hj => simp at hj; subst hj; exact alloc_snd W1 _ _ _
  case ac2 => intro u hu; simp at hu; rcases hu with rfl | rfl <;> rfl
  case ac3 => unfold maxLen; omega
  case ac4 => omega
  case ac5 => have := d5.out.size; simp; omega
  case ak =>
    intro v' w1 hown hgrow hmv
    have HOW := hide hown
    have HG := hide hgrow
    have HM := hide hmv
    clear hown hgrow hmv
    go_wp2
    go_ret
    refine ⟨v', rfl, ?_, ?_, ?_⟩
    · exact HOW.out
    · exact grow_trans d5.out (grow_trans (World.grownBy_alloc W1 _ _) HG.out)
    · rcases HM.out with h | h
      · exact .inl h
      · refine .inr fun k hk => ?_
        rw [h] at hk
        cases hk
        have := d5.out.size
        simp
        omega

theorem appendRun_any (B : Nat) (v : Value) (L : List (Int × Int)) (x : Int × Int) (w : World) (hB : B ≤ w.heap.size) (hlen : L.length ≤ 1048576) (ho : Hid (Og w B 46 v L)) :
    Calls Try.prog 22 #[v, .agg #[.int .u32 x.1, .int .i64 x.2]] w fun e w' => ∃ v', e = .returned v' ∧ Og w' B 46 v' (apOne L x) ∧ w.grownBy w' v.ownBlock ∧ Mv w v v' := by
  rcases List.eq_nil_or_concat L with rfl | ⟨l, y, rfl⟩
  · rcases ho.out.form with ⟨rfl, _⟩ | ⟨g, cap, rfl⟩
    · exact appendRun_nil B none 0 x.1 x.2 w hB ho
    · exact appendRun_nil B _ cap x.1 x.2 w hB ho
  · rw [List.concat_eq_append] at ho hlen ⊢
    rcases ho.out.form with ⟨_, h⟩ | ⟨g, cap, rfl⟩
    · simp at h
    · have hl : (l ++ [y]).length = l.length + 1 := by simp
      rw [hl] at ho hlen ⊢
      by_cases e : y.1 = x.1
      · refine (appendRun_eq B g cap l y x.1 x.2 w hB (by omega) (by simp [e]) ho).mono ?_
        rintro e' w' ⟨rfl, h1, h2⟩
        rw [apOne_eq l y x e]
        exact ⟨_, rfl, h1, h2, .inl rfl⟩
      · refine (appendRun_ne B g cap l y x.1 x.2 w hB (by omega) (by simp [e]) ho).mono ?_
        rintro e' w' ⟨v', rfl, h1, h2, h3⟩
        rw [apOne_ne l y x e]
        exact ⟨_, rfl, h1, h2, h3⟩

theorem Og.grown {w w' : World} {B : Nat} {e : TypeId} {v : Value} {L : List (Int × Int)} (h : Og w B e v L) (hg : w.grownBy w' none) : Og w' B e v L := by
  refine World.ownsRow.kept h hg ?_
  cases hv : v.ownBlock with
  | none => exact .inl rfl
  | some k => exact .inr (by simp)
theorem alloc_set2 (w : World) (a b c d : Value) (e : TypeId) : w.grownBy (((w.alloc (.cells #[a, b] e)).setCell ⟨w.heap.size, 0, none⟩ c).setCell ⟨w.heap.size, 1, none⟩ d) none := by
  refine ⟨rfl, rfl, rfl, by simp, fun k hk _ => ?_⟩
  rw [heap_setCell_other _ _ _ _ (by simp; omega), heap_setCell_other _ _ _ _ (by simp; omega)]
  exact (World.grownBy_alloc w _ none).block k hk (by simp)

theorem take_step (M : List (Int × Int)) (k : Nat) (h : k < M.length) : M.take (k + 1) = M.take k ++ [(rR M k, rN M k)] := by
  have e : M[k] = (rR M k, rN M k) := by simp [rR, rN, List.getD, h]
  rw [List.take_add_one, List.getElem?_eq_getElem h, e]
  rfl

set_option maxHeartbeats 4000000 in
theorem appendRuns_any (B : Nat) (v0 : Value) (b : Option Addr) (c : Nat) (L M : List (Int × Int)) (w : World) (hB : B ≤ w.heap.size) (hL : L.length ≤ 262144) (hM : M.length ≤ 262144) (ho : Hid (Og w B 46 v0 L)) (hb : Hid (Ro w b M))
    (hne : Hid (∀ x, b = some x → some x.block ≠ v0.ownBlock)) :
    Calls Try.prog 21 #[v0, .slice b M.length c] w fun e w' => ∃ v', e = .returned v' ∧ Og w' B 46 v' (apR L M) ∧ w.grownBy w' v0.ownBlock := by
  go_enter Try.func21, Try.ntmps21
  go_wp2_with fail
  go_loopw [0, 9] (fun v i wr => ∃ k : Nat, k ≤ M.length ∧ i = .int .i64 k ∧ Hid (Og wr B 46 v (apR L (M.take k))) ∧ Hid (w.grownBy wr v0.ownBlock) ∧ Hid (Mv w v0 v)) (fun _ i _ => M.length - (intOf i).toNat)
  case atStart => exact ⟨0, Nat.zero_le _, rfl, ho, World.grownBy.refl w _, .inl rfl⟩
  case round =>
    obtain ⟨k, hk, rfl, HO, HG, HM⟩ := hrel
    by_cases hlt : k < M.length
    · obtain ⟨bb, o, hx, hc1, hc2⟩ := hb.out.2 k hlt
      subst hx
      have hd1 := HG.out.cell hc1 (hne.out ⟨bb, o, none⟩ rfl)
      have hd2 := HG.out.cell hc2 (hne.out ⟨bb, o, none⟩ rfl)
      have hbl : bb < wr.heap.size := World.block_lt_of_cell? _ _ hd1
      have hne1 : ¬ bb = wr.heap.size := by omega
      have hne3 : ¬ wr.heap.size = bb := by omega
      clear hc1 hc2
      have hlen : (apR L (M.take k)).length ≤ 1048576 := by have := (apR_len L (M.take k)).2; rw [List.length_take] at this; omega
      have hwr := HG.out.size
      go_wp2_with fail
      refine (appendRun_any B u0 (apR L (M.take k)) (rR M k, rN M k) _ (by simp; omega) hlen (hide (HO.out.grown (World.grownBy_alloc wr _ none)))).mono ?_
      rintro e w' ⟨v', rfl, h1, h2, h3⟩
      have H1 : Hid (Og w' B 46 v' (apR L (M.take (k + 1)))) := by rw [take_step M k hlt, apR_snoc]; exact h1
      have H2 : Hid (w.grownBy w' v0.ownBlock) := by
        have hg := HG.out
        refine ⟨h2.os.trans hg.os, h2.tape.trans hg.tape, h2.output.trans hg.output, Nat.le_trans hwr (Nat.le_trans (by simp) h2.size), fun i hi hr => ?_⟩
        have e1 : some i ≠ u0.ownBlock := by
          rcases HM.out with h | h
          · rw [h]; exact hr
          · intro e
            have := h i e.symm
            omega
        rw [h2.block i (by simp; omega) e1, (World.grownBy_alloc wr _ none).block i (by omega) (by simp), hg.block i hi hr]
      have H3 : Hid (Mv w v0 v') := by
        rcases h3 with h | h
        · rcases HM.out with h' | h'
          · exact .inl (h.trans h')
          · exact .inr (by rw [h]; exact h')
        · refine .inr fun j hj => ?_
          have := h j hj
          simp at this
          omega
      clear h1 h2 h3
      go_wp2_with fail
      go_roundw
      case rel => exact ⟨k + 1, by omega, by go_num, H1, H2, H3⟩
      case measure => simp [intOf]; omega
    · go_wp2
      go_ret
      refine ⟨_, rfl, ?_, HG.out⟩
      have := HO.out
      rwa [List.take_of_length_le (by omega)] at this

end Go.Proofs.Qxb6617377a
