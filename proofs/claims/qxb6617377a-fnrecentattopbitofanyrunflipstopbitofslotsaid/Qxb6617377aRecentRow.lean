import Derived.Test.Qxb6617377aFrame
import Derived.Test.Qxb6617377aRecent
namespace Go.Proofs.Qxb6617377a
set_option linter.unusedVariables false
set_option linter.unusedSimpArgs false
open Go.ChangeShapes Go.WideShapes Go.ChangeAt Go.RowKit

theorem recent_walk (lv : Int) (a : Option Addr) (len cap : Nat) (L : List (Int × Int)) (i : Int) (w : World) (hlv : 0 ≤ lv ∧ lv ≤ 255) (hl : L.length = len) (hb : Ro w a L) (hL : okL L) :
    Calls Try.prog 3 #[.int .u8 lv, .slice a len cap, .int .i64 i] w fun e w' => e = .returned (.bool true) ∧ Below w.heap.size w w' := by
  subst hl
  obtain ⟨h0, h1⟩ := hlv
  by_cases hlen : L.length ≤ 1048576
  · by_cases h16 : L.length ≤ 65536
    · obtain ⟨n, rfl⟩ := Int.eq_ofNat_of_zero_le h0
      obtain ⟨s1, s2⟩ := slot_nat n L (by omega) hL
      have hb0 : 0 ≤ slot (n : Int) L := by rw [s1]; omega
      have hb1 : slot (n : Int) L < 4096 := by rw [s1]; omega
      by_cases hz : L.length = 0
      · have hnil : L = [] := List.eq_nil_of_length_eq_zero hz
        refine recent_empty a cap L n _ w hlen h16 h0 h1 hb hL rfl hb0 hb1 i (by simp [hz]) ?_
        subst hnil
        have : slot (n : Int) [] = 0 := by unfold slot hsh; simp; omega
        simp [this]
      · have hpos : 0 < L.length := by omega
        have hzf : ((L.length : Int) == 0) = false := by rw [beq_eq_false_iff_ne]; omega
        by_cases hi : i < 0
        · exact recent_neg a cap L n _ w hlen h16 h0 h1 hb hL rfl hb0 hb1 hpos hzf i hi (by omega) _ _ rfl rfl (by rw [slot_count n L _ (by omega) (by omega) hL]; simp) (by rw [slot_rope n L _ (by omega) (by omega) hL]; simp)
        · by_cases hi2 : (L.length : Int) ≤ i
          · exact recent_big a cap L n _ w hlen h16 h0 h1 hb hL rfl hb0 hb1 hpos hzf i (by omega) hi2 (by omega) _ _ rfl rfl (by rw [slot_count n L _ (by omega) (by omega) hL]; simp) (by rw [slot_rope n L _ (by omega) (by omega) hL]; simp)
          · obtain ⟨j, rfl⟩ := Int.eq_ofNat_of_zero_le (show 0 ≤ i by omega)
            exact recent_mid a cap L n _ w hlen h16 h0 h1 hb hL rfl hb0 hb1 hpos hzf j (by omega) _ _ rfl rfl (by rw [slot_count n L _ (by omega) (by omega) hL]; simp) (by rw [slot_rope n L _ (by omega) (by omega) hL]; simp)
    · exact recent_long2 a _ cap lv i w hlen h16
  · exact recent_long a _ cap lv i w hlen

set_option maxRecDepth 100000 in
theorem recent_lifted (os : Os) (started : os.Started) (H : Type) (enc : TypeId × Value → H) :
    ReturnsInHanded {} Try.checked os 3 .any (Rows.fnRecentAtTopBitOfAnyRunFlipsTopBitOfSlotSpec.pre6 enc Try.prog Try.f3 Rows.fnRecentAtTopBitOfAnyRunFlipsTopBitOfSlotRow.domain false) (Rows.fnRecentAtTopBitOfAnyRunFlipsTopBitOfSlotSpec.post enc Try.prog Try.f3 false true false false) := by
  refine returnsInHanded_of_change (C := Try.checked) own started (by kernel_rfl) Try.func3
    (ChangeSpec.witness6 (enc := enc) (C := Try.checked) false ⟨#[], #[.int .u8 0, .slice none 0 0, .int .i64 0], []⟩ 8 (by kernel_rfl) (by kernel_rfl) (by kernel_rfl) (by kernel_rfl)) ?_
  intro W base args ds gs before hval0 hW hcnd _
  have hval : ∀ (j : Nat) t v, Try.f3.params[j]? = some t → args[j]? = some v → Value.okWide Try.prog W .any base t v := hval0
  have hW' := hW
  obtain ⟨p, q, hA0, hV, rfl, hfz, hnd⟩ := hW
  have hA : DataW.TrodAll enc Try.prog W 0 (fun _ => true) true Try.f3.params.toList args.toList ds p := hA0
  rw [Try.params3] at hA hval
  obtain ⟨v0, vs0, d0, ds0, p0, q0, hargs, rfl, rfl, h0, r0⟩ := trodAll_cons hA
  obtain ⟨v1, vs1, d1, ds1, p1, q1, rfl, rfl, rfl, h1, r1⟩ := trodAll_cons r0
  obtain ⟨v2, vs2, d2, ds2, p2, q2, rfl, rfl, rfl, h2, r2⟩ := trodAll_cons r1
  obtain ⟨rfl, rfl, rfl⟩ := trodAll_nil r2
  obtain rfl : args = #[v0, v1, v2] := by cases args; simp_all
  obtain ⟨rfl, rfl⟩ := trodVars_none hV
  obtain ⟨x0, rfl, rfl, rfl, w0⟩ := open_int Try.underlying5 (hval 0 5 v0 rfl rfl) h0
  obtain ⟨a1, len1, cap1, rfl⟩ := okWide_slice Try.underlying22 (hval 1 22 v1 rfl rfl)
  have k1 := h1
  have lt1 : ∀ x ∈ p1, x.block < W.heap.size := by obtain ⟨m, hm⟩ := k1; exact DataW.trod_lt m _ _ _ hm
  obtain ⟨L1, hl1, hb1, hL1, hN1⟩ := runs_in h1
  obtain ⟨x2, rfl, rfl, rfl, w2⟩ := open_int Try.underlying3 (hval 2 3 v2 rfl rfl) h2
  have hlv : 0 ≤ x0 ∧ x0 ≤ 255 := by simpa [Lit.wf, IntKind.min, IntKind.max, IntKind.signed, IntKind.bits] using w0
  clear hA0 hval0
  refine (recent_walk x0 a1 len1 cap1 L1 x2 W hlv hl1 hb1 hL1).mono fun e W' ⟨he, bel⟩ => ?_
  subst he
  exact ⟨_, rfl, _, _, _, [], _, [], hW', trodAll_mk1 (shut_bool Try.underlying4 _), (trodAll_cons_mk (shut_int Try.underlying5 w0) (trodAll_cons_mk (Below.trod laidOut (by kernel_rfl) (of_decide_eq_true (by kernel_rfl)) k1 bel lt1) (trodAll_cons_mk (shut_int Try.underlying3 w2) trodAll_mk0))), rfl, bel.frame _, fun h => by cases h⟩

theorem fnRecentAt_proved : Rows.FnRecentAtTopBitOfAnyRunFlipsTopBitOfSlotSaid :=
  OpenClaim.holds_of_wide 3 Try.f3 rfl rfl rfl rfl rfl rfl rfl ⟨rfl, rfl, rfl, rfl, rfl⟩ rfl rfl rfl rfl rfl (by kernel_rfl) Try.func3 (by kernel_rfl)
    (of_decide_eq_true (by kernel_rfl)) (by unfold Func.isWrapper; first | (rw [if_pos (by decide +kernel)]; kernel_rfl) | (rw [if_neg (by decide +kernel)]; exact ⟨rfl, rfl⟩))
    (fun os started H enc _ => recent_lifted os started H enc)

end Go.Proofs.Qxb6617377a
