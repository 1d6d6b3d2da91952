import Derived.Test.Qxb6617377aFrame
import Derived.Test.Qxb6617377aAs1
import Derived.Test.Qxb6617377aAs2
namespace Go.Proofs.Qxb6617377a
set_option linter.unusedVariables false
set_option linter.unusedSimpArgs false
open Go.ChangeShapes Go.WideShapes Go.ChangeAt Go.RowKit

set_option maxRecDepth 100000 in
set_option maxHeartbeats 400000 in
theorem assoc_long (a b x : Option Addr) (n m k c d f : Nat) (w : World) (h : ¬ n + m + k ≤ 1048576) :
    Calls Try.prog 5 #[.slice a n c, .slice b m d, .slice x k f] w fun e w' => e = .returned (.bool true) ∧ Below w.heap.size w w' := by
  go_enter Try.func5, Try.ntmps5
  go_wp2_with (go_at_call 14; refine (zz14_no _ _ _ _ _ _ _ _ _ _ h).mono ?_; rintro e w' ⟨rfl, rfl⟩)
  go_ret
  exact ⟨rfl, Below.refl _ _⟩

set_option maxRecDepth 100000 in
set_option maxHeartbeats 400000 in
theorem assoc_long2 (a b x : Option Addr) (n m k c d f : Nat) (w : World) (h : n + m + k ≤ 1048576) (h2 : ¬ n ≤ 65536) :
    Calls Try.prog 5 #[.slice a n c, .slice b m d, .slice x k f] w fun e w' => e = .returned (.bool true) ∧ Below w.heap.size w w' := by
  go_enter Try.func5, Try.ntmps5
  go_wp2_with (go_at_call 14; refine (zz14_yes _ _ _ _ _ _ _ _ _ _ h).mono ?_; rintro e w' ⟨rfl, rfl⟩)
  go_ret
  exact ⟨rfl, Below.refl _ _⟩

set_option maxRecDepth 100000 in
set_option maxHeartbeats 400000 in
theorem assoc_long3 (a b x : Option Addr) (n m k c d f : Nat) (w : World) (h : n + m + k ≤ 1048576) (h2 : n ≤ 65536) (h3 : ¬ n + m ≤ 65536) :
    Calls Try.prog 5 #[.slice a n c, .slice b m d, .slice x k f] w fun e w' => e = .returned (.bool true) ∧ Below w.heap.size w w' := by
  go_enter Try.func5, Try.ntmps5
  go_wp2_with (go_at_call 14; refine (zz14_yes _ _ _ _ _ _ _ _ _ _ h).mono ?_; rintro e w' ⟨rfl, rfl⟩)
  go_ret
  exact ⟨rfl, Below.refl _ _⟩

set_option maxRecDepth 100000 in
set_option maxHeartbeats 400000 in
theorem assoc_long4 (a b x : Option Addr) (n m k c d f : Nat) (w : World) (h : n + m + k ≤ 1048576) (h2 : n ≤ 65536) (h3 : n + m ≤ 65536) (h4 : ¬ n + m + k ≤ 65536) :
    Calls Try.prog 5 #[.slice a n c, .slice b m d, .slice x k f] w fun e w' => e = .returned (.bool true) ∧ Below w.heap.size w w' := by
  go_enter Try.func5, Try.ntmps5
  go_wp2_with (go_at_call 14; refine (zz14_yes _ _ _ _ _ _ _ _ _ _ h).mono ?_; rintro e w' ⟨rfl, rfl⟩)
  go_ret
  exact ⟨rfl, Below.refl _ _⟩

theorem assoc_walk (a b x : Option Addr) (n m k c d f : Nat) (A B C : List (Int × Int)) (w : World) (hn : A.length = n) (hm : B.length = m) (hk : C.length = k) (ha : Ro w a A) (hb : Ro w b B) (hc : Ro w x C) :
    Calls Try.prog 5 #[.slice a n c, .slice b m d, .slice x k f] w fun e w' => e = .returned (.bool true) ∧ Below w.heap.size w w' := by
  subst hn
  subst hm
  subst hk
  by_cases g1 : A.length + B.length + C.length ≤ 1048576
  · by_cases g2 : A.length ≤ 65536
    · by_cases g3 : A.length + B.length ≤ 65536
      · by_cases g4 : A.length + B.length + C.length ≤ 65536
        · have hlw := Lw.mk' A B C
          have he := empty_iff A B C
          have l1 := hlw.len
          have l2 := hlw.top
          by_cases h0 : A.length = 0
          · by_cases hz : A.length + B.length + C.length = 0
            · have hz' := he.2 hz
              exact assoc_all a b x c d f A B C w g4 ha hb hc (sI A) _ _ rfl rfl hlw rfl l1 l2 (hide (by omega)) (hide (by unfold sI; omega)) (by simp; omega) (by rw [beq_iff_eq]; omega) (by rw [beq_iff_eq]; omega)
            · have hz' : ¬ (apR (apR A B) C).length = 0 := fun e => hz (he.1 e)
              exact assoc_nil a b x c d f A B C w g4 ha hb hc (sI A) _ _ rfl rfl hlw rfl l1 l2 (hide (by omega)) (hide (by unfold sI; omega)) (by simp; omega) (by rw [beq_eq_false_iff_ne]; omega) (by rw [beq_eq_false_iff_ne]; omega)
          · exact assoc_ne a b x c d f A B C w g4 ha hb hc (sI A) _ _ rfl rfl hlw rfl l1 l2 (by unfold sI; omega) (by unfold sI; omega) (by rw [beq_eq_false_iff_ne]; omega) (by rw [beq_eq_false_iff_ne]; omega)
        · exact assoc_long4 a b x _ _ _ c d f w g1 g2 g3 g4
      · exact assoc_long3 a b x _ _ _ c d f w g1 g2 g3
    · exact assoc_long2 a b x _ _ _ c d f w g1 g2
  · exact assoc_long a b x _ _ _ c d f w g1

set_option maxRecDepth 100000 in
theorem assoc_lifted (os : Os) (started : os.Started) (H : Type) (enc : TypeId × Value → H) :
    ReturnsInHanded {} Try.checked os 5 .any (Rows.fnAppendRunsIsAssociativeAndKeepsTheCountSpec.pre6 enc Try.prog Try.f5 Rows.fnAppendRunsIsAssociativeAndKeepsTheCountRow.domain false) (Rows.fnAppendRunsIsAssociativeAndKeepsTheCountSpec.post enc Try.prog Try.f5 false true false false) := by
  refine returnsInHanded_of_change (C := Try.checked) own started (by kernel_rfl) Try.func5
    (ChangeSpec.witness6 (enc := enc) (C := Try.checked) false ⟨#[], #[.slice none 0 0, .slice none 0 0, .slice none 0 0], []⟩ 8 (by kernel_rfl) (by kernel_rfl) (by kernel_rfl) (by kernel_rfl)) ?_
  intro W base args ds gs before hval0 hW hcnd _
  have hval : ∀ (j : Nat) t v, Try.f5.params[j]? = some t → args[j]? = some v → Value.okWide Try.prog W .any base t v := hval0
  have hW' := hW
  obtain ⟨p, q, hA0, hV, rfl, hfz, hnd⟩ := hW
  have hA : DataW.TrodAll enc Try.prog W 0 (fun _ => true) true Try.f5.params.toList args.toList ds p := hA0
  rw [Try.params5] at hA hval
  obtain ⟨v0, vs0, d0, ds0, p0, q0, hargs, rfl, rfl, h0, r0⟩ := trodAll_cons hA
  obtain ⟨v1, vs1, d1, ds1, p1, q1, rfl, rfl, rfl, h1, r1⟩ := trodAll_cons r0
  obtain ⟨v2, vs2, d2, ds2, p2, q2, rfl, rfl, rfl, h2, r2⟩ := trodAll_cons r1
  obtain ⟨rfl, rfl, rfl⟩ := trodAll_nil r2
  obtain rfl : args = #[v0, v1, v2] := by cases args; simp_all
  obtain ⟨rfl, rfl⟩ := trodVars_none hV
  obtain ⟨a0, len0, cap0, rfl⟩ := okWide_slice Try.underlying22 (hval 0 22 v0 rfl rfl)
  have k0 := h0
  have lt0 : ∀ x ∈ p0, x.block < W.heap.size := by obtain ⟨m, hm⟩ := k0; exact DataW.trod_lt m _ _ _ hm
  obtain ⟨L0, hl0, hb0, hL0, hN0⟩ := runs_in h0
  obtain ⟨a1, len1, cap1, rfl⟩ := okWide_slice Try.underlying22 (hval 1 22 v1 rfl rfl)
  have k1 := h1
  have lt1 : ∀ x ∈ p1, x.block < W.heap.size := by obtain ⟨m, hm⟩ := k1; exact DataW.trod_lt m _ _ _ hm
  obtain ⟨L1, hl1, hb1, hL1, hN1⟩ := runs_in h1
  obtain ⟨a2, len2, cap2, rfl⟩ := okWide_slice Try.underlying22 (hval 2 22 v2 rfl rfl)
  have k2 := h2
  have lt2 : ∀ x ∈ p2, x.block < W.heap.size := by obtain ⟨m, hm⟩ := k2; exact DataW.trod_lt m _ _ _ hm
  obtain ⟨L2, hl2, hb2, hL2, hN2⟩ := runs_in h2
  clear hA0 hval0
  refine (assoc_walk a0 a1 a2 len0 len1 len2 cap0 cap1 cap2 L0 L1 L2 W hl0 hl1 hl2 hb0 hb1 hb2).mono fun e W' ⟨he, bel⟩ => ?_
  subst he
  exact ⟨_, rfl, _, _, _, [], _, [], hW', trodAll_mk1 (shut_bool Try.underlying4 _), (trodAll_cons_mk (Below.trod laidOut (by kernel_rfl) (of_decide_eq_true (by kernel_rfl)) k0 bel lt0) (trodAll_cons_mk (Below.trod laidOut (by kernel_rfl) (of_decide_eq_true (by kernel_rfl)) k1 bel lt1) (trodAll_cons_mk (Below.trod laidOut (by kernel_rfl) (of_decide_eq_true (by kernel_rfl)) k2 bel lt2) trodAll_mk0))), rfl, bel.frame _, fun h => by cases h⟩

theorem fnAppendRunsIsAssociative_proved : Rows.FnAppendRunsIsAssociativeAndKeepsTheCountSaid :=
  OpenClaim.holds_of_wide 5 Try.f5 rfl rfl rfl rfl rfl rfl rfl ⟨rfl, rfl, rfl, rfl, rfl⟩ rfl rfl rfl rfl rfl (by kernel_rfl) Try.func5 (by kernel_rfl)
    (of_decide_eq_true (by kernel_rfl)) (by unfold Func.isWrapper; first | (rw [if_pos (by decide +kernel)]; kernel_rfl) | (rw [if_neg (by decide +kernel)]; exact ⟨rfl, rfl⟩))
    (fun os started H enc _ => assoc_lifted os started H enc)

end Go.Proofs.Qxb6617377a
