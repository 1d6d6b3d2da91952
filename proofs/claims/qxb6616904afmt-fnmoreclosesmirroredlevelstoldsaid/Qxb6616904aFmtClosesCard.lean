import Derived.Test.Qxb6616904aFmtFrame
import Derived.Test.Qxb6616904aFmtCloses2
namespace Go.Proofs.Qxb6616904aFmt
set_option linter.unusedVariables false
set_option linter.unusedSimpArgs false
open Go.ChangeShapes Go.WideShapes Go.ChangeAt Go.RowKit Go.Kit
open Go.Extern.Stop Go.Stop Go.Extern

theorem cl_bounds (D E : List Int) : ∀ m pos, (cl D E m pos).2 ≤ m ∧ (pos ≤ D.length → (∀ x ∈ E, x = 93 ∨ x = 125) → m ≤ E.length → (cl D E m pos).1 ≤ D.length)
  | 0, pos => ⟨Nat.le_refl _, fun h _ _ => h⟩
  | m + 1, pos => by
    rw [cl]
    split
    · rename_i hc
      have ih := cl_bounds D E m (skip D pos + 1)
      refine ⟨by omega, fun hp hE hm => ih.2 ?_ hE (by omega)⟩
      refine pk_pos ?_
      rw [hc]
      have := hE _ (getD_mem (E := E) (m := m) (by omega))
      rcases this with h | h <;> rw [h] <;> decide
    · exact ⟨Nat.le_refl _, fun hp _ _ => skip_le hp⟩

theorem closes_walk (F : Interp) (a : Option Addr) (len cap : Nat) (D : List Int) (w : World) (hF : F.answers w.tape) (hl : D.length = len) (hb : Bo w a D) :
    Calls Tryf.prog 7 #[.slice a len cap] w fun e w' => e = .returned (.bool true) ∧ Below w.heap.size w w' := by
  subst hl
  by_cases hlen : D.length ≤ 1048576
  · by_cases h0 : (oE D).length = 0
    · exact closes_zero F a cap D _ w hF hlen hb rfl h0
    · have hB := cl_bounds D (oE D) (oE D).length (oS D)
      have hP := hB.2 (oS_le D) (fun x hx => oE_mem hx) (Nat.le_refl _)
      have hcl : cl D (oE D) (oE D).length (oS D) = ((cl D (oE D) (oE D).length (oS D)).1, (oE D).length - ((oE D).length - (cl D (oE D) (oE D).length (oS D)).2)) := by
        rw [show (oE D).length - ((oE D).length - (cl D (oE D) (oE D).length (oS D)).2) = (cl D (oE D) (oE D).length (oS D)).2 from by omega]
      by_cases hz : (cl D (oE D) (oE D).length (oS D)).2 = 0
      · exact closes_main1 F a cap D _ _ _ ((oE D).length - (cl D (oE D) (oE D).length (oS D)).2) w hF hlen hb rfl rfl (by omega) (oS_le D) hP hcl (by omega)
      · exact closes_main2 F a cap D _ _ _ ((oE D).length - (cl D (oE D) (oE D).length (oS D)).2) w hF hlen hb rfl rfl (by omega) (oS_le D) hP hcl (by omega)
  · exact closes_long a cap D w hlen

set_option maxRecDepth 100000 in
theorem closes_lifted (os : Os) (started : os.Started) (H : Type) (enc : TypeId × Value → H) :
    ReturnsInTold none {} Tryf.checked os 7 .any Input.okWide ((OpenSpec.ofChange Rows.fnMoreClosesMirroredLevelsSpec).preRow enc Tryf.prog Tryf.f7 [] false []) (fun F => ((OpenSpec.ofChange Rows.fnMoreClosesMirroredLevelsSpec).at F).post enc Tryf.prog Tryf.f7 false true false false) (aloneAtReturn Tryf.prog) nothingAlways := by
  refine returnsInTold_of_row (C := Tryf.checked) (s := OpenSpec.ofChange Rows.fnMoreClosesMirroredLevelsSpec) (by kernel_rfl) own started (by kernel_rfl) Tryf.func7
    (OpenSpec.witness_stopped (enc := enc) (C := Tryf.checked) false ⟨#[], #[.slice none 0 0], []⟩ 8 (by kernel_rfl) (by kernel_rfl) (by kernel_rfl) (by kernel_rfl)) ?_
  intro F W base args ds gs before _ hF hval0 hW _ _ _ _ _
  have hval : ∀ (j : Nat) t v, Tryf.f7.params[j]? = some t → args[j]? = some v → Value.okWide Tryf.prog W .any base t v := hval0
  have hW' := hW
  obtain ⟨p, q, hA0, hV, rfl, hfz, hnd⟩ := hW
  have hA : DataW.TrodAll enc Tryf.prog W 0 (fun _ => true) true Tryf.f7.params.toList args.toList ds p := hA0
  rw [Tryf.params7] at hA hval
  obtain ⟨v0, vs0, d0, ds0, p0, q0, hargs, rfl, rfl, h0, r0⟩ := trodAll_cons hA
  obtain ⟨rfl, rfl, rfl⟩ := trodAll_nil r0
  obtain rfl : args = #[v0] := by cases args; simp_all
  obtain ⟨rfl, rfl⟩ := trodVars_none hV
  obtain ⟨a0, len0, cap0, rfl⟩ := okWide_slice Tryf.underlying22 (hval 0 22 v0 rfl rfl)
  have k0 := h0
  have lt0 : ∀ x ∈ p0, x.block < W.heap.size := by obtain ⟨m, hm⟩ := k0; exact DataW.trod_lt m _ _ _ hm
  obtain ⟨D0, hl0, hb0⟩ := bytes_in h0
  clear hA0 hval0
  refine (closes_walk F.told a0 len0 cap0 D0 W hF hl0 hb0).mono fun e W' ⟨he, bel⟩ => ?_
  subst he
  exact ⟨_, rfl, _, _, _, [], _, [], hW', trodAll_mk1 (shut_bool Tryf.underlying4 _), (trodAll_cons_mk (Below.trod laidOut (by kernel_rfl) (of_decide_eq_true (by kernel_rfl)) k0 bel lt0) trodAll_mk0), rfl, bel.frame _, fun h => by cases h⟩

theorem fnMoreClosesMirroredLevels_told : Rows.FnMoreClosesMirroredLevelsToldSaid :=
  Claim7.holds_of_told_any 7 Tryf.f7 "fmt.errorf" [] [] _ _ _ (by kernel_rfl) rfl rfl rfl laidOutP (by kernel_rfl) rfl ⟨rfl, rfl, rfl, rfl, rfl, rfl, rfl⟩ rfl rfl (by kernel_rfl) (by kernel_rfl) Tryf.func7 (by kernel_rfl)
    (of_decide_eq_true (by kernel_rfl)) (by unfold Func.isWrapper; first | (rw [if_pos (by decide +kernel)]; kernel_rfl) | (rw [if_neg (by decide +kernel)]; exact ⟨rfl, rfl⟩)) pstops.symm rfl pknobs.symm (by kernel_rfl)
    (by kernel_rfl) (by kernel_rfl) (by kernel_rfl) (by kernel_rfl) (by kernel_rfl) (by kernel_rfl) (by kernel_rfl) (by kernel_rfl) (by kernel_rfl) rfl (by kernel_rfl) rfl rfl
    rfl rfl
    rfl (by kernel_rfl) (by kernel_rfl) (by kernel_rfl) (by decide) (by kernel_rfl)
    (OpenClaim.moreEntering_of (by kernel_rfl) (by kernel_rfl) (by kernel_rfl) (by kernel_rfl) (by kernel_rfl) (by kernel_rfl) (by kernel_rfl) (by kernel_rfl) (by kernel_rfl) (by kernel_rfl))
    ⟨_, WideRow.started_initial, pquiet _⟩
    (fun os started _ H enc _ => closes_lifted os started H enc)

end Go.Proofs.Qxb6616904aFmt
