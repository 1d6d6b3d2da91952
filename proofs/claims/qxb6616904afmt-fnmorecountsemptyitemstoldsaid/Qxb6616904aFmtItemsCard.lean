import Derived.Test.Qxb6616904aFmtFrame
import Derived.Test.Qxb6616904aFmtItems2
namespace Go.Proofs.Qxb6616904aFmt
set_option linter.unusedVariables false
set_option linter.unusedSimpArgs false
open Go.ChangeShapes Go.WideShapes Go.ChangeAt Go.RowKit Go.Kit
open Go.Extern.Stop Go.Stop Go.Extern

theorem items_walk (F : Interp) (a : Option Addr) (len cap : Nat) (D : List Int) (w : World) (hF : F.answers w.tape) (hl : D.length = len) (hb : Bo w a D) :
    Calls Tryf.prog 6 #[.slice a len cap] w fun e w' => e = .returned (.bool true) ∧ Below w.heap.size w w' := by
  subst hl
  by_cases hlen : D.length ≤ 1048576
  · by_cases hop : pk D (skip D 0) = 91 ∨ pk D (skip D 0) = 123
    · have hpl : skip D 0 < D.length := pk_pos (by rcases hop with h | h <;> rw [h] <;> decide)
      have hent : enter D ⟨0, false, []⟩ = ⟨skip D 0 + 1, false, [(closer (pk D (skip D 0)), false)]⟩ := by
        unfold enter
        rw [if_pos ⟨hop, by decide⟩]
        rfl
      have he := closer_is (pk D (skip D 0))
      have hJl : cend D (skip D 0 + 1) ≤ D.length := cend_le hpl
      have hCl : ccnt D (skip D 0 + 1) ≤ D.length := Nat.le_trans (ccnt_le D _) (Nat.sub_le _ _)
      by_cases h91 : pk D (skip D 0) = 91
      · have g91 : (pk D (skip D 0) != 91) = false := by simp [h91]
        by_cases hj : cend D (skip D 0 + 1) < D.length
        · by_cases hjc : pk D (cend D (skip D 0 + 1)) = closer (pk D (skip D 0))
          · by_cases hc : ccnt D (skip D 0 + 1) = 0
            · exact items_zero0 F a cap D _ _ _ _ w hF hlen hb rfl hent rfl he hpl g91 rfl rfl hJl hCl hj (by simp [hjc]) (by simp [hc])
            · exact items_some0 F a cap D _ _ _ _ w hF hlen hb rfl hent rfl he hpl g91 rfl rfl hJl hCl hj (by simp [hjc]) (by simp; omega)
          · exact items_not0 F a cap D _ _ _ _ w hF hlen hb rfl hent rfl he hpl g91 rfl rfl hJl hCl hj (by simp [hjc])
        · exact items_end0 F a cap D _ _ _ _ w hF hlen hb rfl hent rfl he hpl g91 rfl rfl hJl hCl hj
      · have g91 : (pk D (skip D 0) != 91) = true := by simp [h91]
        have g123 : (pk D (skip D 0) != 123) = false := by simp [hop.resolve_left h91]
        by_cases hj : cend D (skip D 0 + 1) < D.length
        · by_cases hjc : pk D (cend D (skip D 0 + 1)) = closer (pk D (skip D 0))
          · by_cases hc : ccnt D (skip D 0 + 1) = 0
            · exact items_zero1 F a cap D _ _ _ _ w hF hlen hb rfl hent rfl he hpl g91 g123 rfl rfl hJl hCl hj (by simp [hjc]) (by simp [hc])
            · exact items_some1 F a cap D _ _ _ _ w hF hlen hb rfl hent rfl he hpl g91 g123 rfl rfl hJl hCl hj (by simp [hjc]) (by simp; omega)
          · exact items_not1 F a cap D _ _ _ _ w hF hlen hb rfl hent rfl he hpl g91 g123 rfl rfl hJl hCl hj (by simp [hjc])
        · exact items_end1 F a cap D _ _ _ _ w hF hlen hb rfl hent rfl he hpl g91 g123 rfl rfl hJl hCl hj
    · have hent : enter D ⟨0, false, []⟩ = ⟨skip D 0, true, []⟩ := by
        unfold enter
        rw [if_neg (fun h => hop h.1)]
      by_cases hpl : skip D 0 < D.length
      · exact items_bad F a cap D _ w hF hlen hb rfl hent hpl (by simp; exact fun h => hop (.inl h)) (by simp; exact fun h => hop (.inr h))
      · exact items_end F a cap D _ w hF hlen hb rfl hent hpl
  · exact items_long a cap D w hlen

set_option maxRecDepth 100000 in
theorem items_lifted (os : Os) (started : os.Started) (H : Type) (enc : TypeId × Value → H) :
    ReturnsInTold none {} Tryf.checked os 6 .any Input.okWide ((OpenSpec.ofChange Rows.fnMoreCountsEmptyItemsSpec).preRow enc Tryf.prog Tryf.f6 [] false []) (fun F => ((OpenSpec.ofChange Rows.fnMoreCountsEmptyItemsSpec).at F).post enc Tryf.prog Tryf.f6 false true false false) (aloneAtReturn Tryf.prog) nothingAlways := by
  refine returnsInTold_of_row (C := Tryf.checked) (s := OpenSpec.ofChange Rows.fnMoreCountsEmptyItemsSpec) (by kernel_rfl) own started (by kernel_rfl) Tryf.func6
    (OpenSpec.witness_stopped (enc := enc) (C := Tryf.checked) false ⟨#[], #[.slice none 0 0], []⟩ 8 (by kernel_rfl) (by kernel_rfl) (by kernel_rfl) (by kernel_rfl)) ?_
  intro F W base args ds gs before _ hF hval0 hW _ _ _ _ _
  have hval : ∀ (j : Nat) t v, Tryf.f6.params[j]? = some t → args[j]? = some v → Value.okWide Tryf.prog W .any base t v := hval0
  have hW' := hW
  obtain ⟨p, q, hA0, hV, rfl, hfz, hnd⟩ := hW
  have hA : DataW.TrodAll enc Tryf.prog W 0 (fun _ => true) true Tryf.f6.params.toList args.toList ds p := hA0
  rw [Tryf.params6] at hA hval
  obtain ⟨v0, vs0, d0, ds0, p0, q0, hargs, rfl, rfl, h0, r0⟩ := trodAll_cons hA
  obtain ⟨rfl, rfl, rfl⟩ := trodAll_nil r0
  obtain rfl : args = #[v0] := by cases args; simp_all
  obtain ⟨rfl, rfl⟩ := trodVars_none hV
  obtain ⟨a0, len0, cap0, rfl⟩ := okWide_slice Tryf.underlying22 (hval 0 22 v0 rfl rfl)
  have k0 := h0
  have lt0 : ∀ x ∈ p0, x.block < W.heap.size := by obtain ⟨m, hm⟩ := k0; exact DataW.trod_lt m _ _ _ hm
  obtain ⟨D0, hl0, hb0⟩ := bytes_in h0
  clear hA0 hval0
  refine (items_walk F.told a0 len0 cap0 D0 W hF hl0 hb0).mono fun e W' ⟨he, bel⟩ => ?_
  subst he
  exact ⟨_, rfl, _, _, _, [], _, [], hW', trodAll_mk1 (shut_bool Tryf.underlying4 _), (trodAll_cons_mk (Below.trod laidOut (by kernel_rfl) (of_decide_eq_true (by kernel_rfl)) k0 bel lt0) trodAll_mk0), rfl, bel.frame _, fun h => by cases h⟩

theorem fnMoreCountsEmptyItems_told : Rows.FnMoreCountsEmptyItemsToldSaid :=
  Claim7.holds_of_told_any 6 Tryf.f6 "fmt.errorf" [] [] _ _ _ (by kernel_rfl) rfl rfl rfl laidOutP (by kernel_rfl) rfl ⟨rfl, rfl, rfl, rfl, rfl, rfl, rfl⟩ rfl rfl (by kernel_rfl) (by kernel_rfl) Tryf.func6 (by kernel_rfl)
    (of_decide_eq_true (by kernel_rfl)) (by unfold Func.isWrapper; first | (rw [if_pos (by decide +kernel)]; kernel_rfl) | (rw [if_neg (by decide +kernel)]; exact ⟨rfl, rfl⟩)) pstops.symm rfl pknobs.symm (by kernel_rfl)
    (by kernel_rfl) (by kernel_rfl) (by kernel_rfl) (by kernel_rfl) (by kernel_rfl) (by kernel_rfl) (by kernel_rfl) (by kernel_rfl) (by kernel_rfl) rfl (by kernel_rfl) rfl rfl
    rfl rfl
    rfl (by kernel_rfl) (by kernel_rfl) (by kernel_rfl) (by decide) (by kernel_rfl)
    (OpenClaim.moreEntering_of (by kernel_rfl) (by kernel_rfl) (by kernel_rfl) (by kernel_rfl) (by kernel_rfl) (by kernel_rfl) (by kernel_rfl) (by kernel_rfl) (by kernel_rfl) (by kernel_rfl))
    ⟨_, WideRow.started_initial, pquiet _⟩
    (fun os started _ H enc _ => items_lifted os started H enc)

end Go.Proofs.Qxb6616904aFmt
