import Derived.Test.Qxb6616904aFmtFrame
import Derived.Test.Qxb6616904aFmtSkips
namespace Go.Proofs.Qxb6616904aFmt
set_option linter.unusedVariables false
set_option linter.unusedSimpArgs false
open Go.ChangeShapes Go.WideShapes Go.ChangeAt Go.RowKit Go.Kit
open Go.Extern.Stop Go.Stop Go.Extern

theorem skips_walk (F : Interp) (a b : Option Addr) (la ca lb cb : Nat) (A B : List Int) (w : World) (hF : F.answers w.tape) (hl : A.length = la) (hl2 : B.length = lb) (ha : Bo w a A) (hb : Bo w b B) :
    Calls Tryf.prog 5 #[.slice a la ca, .slice b lb cb] w fun e w' => e = .returned (.bool true) ∧ Below w.heap.size w w' := by
  subst hl
  subst hl2
  by_cases hlen : A.length + B.length ≤ 1048576
  · by_cases hA : ∀ j, j < A.length → spB (pk A j) = true
    · have hsh := skip_shift (B := B) hA
      have hpk : pk (A ++ B) (skip (A ++ B) 0) = pk B (skip B 0) := by rw [hsh, pk_right]
      by_cases hop : pk B (skip B 0) = 91 ∨ pk B (skip B 0) = 123
      · have hpl : skip B 0 < B.length := pk_pos (by rcases hop with h | h <;> rw [h] <;> decide)
        have eA : enter (A ++ B) ⟨0, false, []⟩ = ⟨A.length + (skip B 0 + 1), false, [(closer (pk B (skip B 0)), false)]⟩ := by
          rw [enter_in (by rw [hpk]; exact hop), hpk, hsh, Nat.add_assoc]
        by_cases h91 : pk B (skip B 0) = 91
        · exact skips_in91 F a b ca cb A B w hF hlen ha hb _ rfl _ rfl _ rfl hpl eA (enter_in hop) (by simp [h91])
        · exact skips_in123 F a b ca cb A B w hF hlen ha hb _ rfl _ rfl _ rfl hpl eA (enter_in hop) (by simp [h91]) (by simp [hop.resolve_left h91])
      · have eA : enter (A ++ B) ⟨0, false, []⟩ = ⟨A.length + skip B 0, true, []⟩ := by
          rw [enter_out (by rw [hpk]; exact hop), hsh]
        by_cases hpl : skip B 0 < B.length
        · exact skips_outin F a b ca cb A B w hF hlen ha hb _ rfl _ rfl eA (enter_out hop) hpl (by simp; exact fun h => hop (.inl h)) (by simp; exact fun h => hop (.inr h))
        · exact skips_outend F a b ca cb A B w hF hlen ha hb _ rfl _ rfl eA (enter_out hop) hpl (skip_le (Nat.zero_le _))
    · exact skips_bad F a b ca cb A B w hF hlen ha hb hA
  · exact skips_long a b ca cb A B w hlen

set_option maxRecDepth 100000 in
theorem skips_lifted (os : Os) (started : os.Started) (H : Type) (enc : TypeId × Value → H) :
    ReturnsInTold none {} Tryf.checked os 5 .any Input.okWide ((OpenSpec.ofChange Rows.fnEnterSkipsLeadingSpaceSpec).preRow enc Tryf.prog Tryf.f5 [] false []) (fun F => ((OpenSpec.ofChange Rows.fnEnterSkipsLeadingSpaceSpec).at F).post enc Tryf.prog Tryf.f5 false true false false) (aloneAtReturn Tryf.prog) nothingAlways := by
  refine returnsInTold_of_row (C := Tryf.checked) (s := OpenSpec.ofChange Rows.fnEnterSkipsLeadingSpaceSpec) (by kernel_rfl) own started (by kernel_rfl) Tryf.func5
    (OpenSpec.witness_stopped (enc := enc) (C := Tryf.checked) false ⟨#[], #[.slice none 0 0, .slice none 0 0], []⟩ 8 (by kernel_rfl) (by kernel_rfl) (by kernel_rfl) (by kernel_rfl)) ?_
  intro F W base args ds gs before _ hF hval0 hW _ _ _ _ _
  have hval : ∀ (j : Nat) t v, Tryf.f5.params[j]? = some t → args[j]? = some v → Value.okWide Tryf.prog W .any base t v := hval0
  have hW' := hW
  obtain ⟨p, q, hA0, hV, rfl, hfz, hnd⟩ := hW
  have hA : DataW.TrodAll enc Tryf.prog W 0 (fun _ => true) true Tryf.f5.params.toList args.toList ds p := hA0
  rw [Tryf.params5] at hA hval
  obtain ⟨v0, vs0, d0, ds0, p0, q0, hargs, rfl, rfl, h0, r0⟩ := trodAll_cons hA
  obtain ⟨v1, vs1, d1, ds1, p1, q1, rfl, rfl, rfl, h1, r1⟩ := trodAll_cons r0
  obtain ⟨rfl, rfl, rfl⟩ := trodAll_nil r1
  obtain rfl : args = #[v0, v1] := by cases args; simp_all
  obtain ⟨rfl, rfl⟩ := trodVars_none hV
  obtain ⟨a0, len0, cap0, rfl⟩ := okWide_slice Tryf.underlying22 (hval 0 22 v0 rfl rfl)
  obtain ⟨a1, len1, cap1, rfl⟩ := okWide_slice Tryf.underlying22 (hval 1 22 v1 rfl rfl)
  have k0 := h0
  have lt0 : ∀ x ∈ p0, x.block < W.heap.size := by obtain ⟨m, hm⟩ := k0; exact DataW.trod_lt m _ _ _ hm
  obtain ⟨D0, hl0, hb0⟩ := bytes_in h0
  have k1 := h1
  have lt1 : ∀ x ∈ p1, x.block < W.heap.size := by obtain ⟨m, hm⟩ := k1; exact DataW.trod_lt m _ _ _ hm
  obtain ⟨D1, hl1, hb1⟩ := bytes_in h1
  clear hA0 hval0
  refine (skips_walk F.told a0 a1 len0 cap0 len1 cap1 D0 D1 W hF hl0 hl1 hb0 hb1).mono fun e W' ⟨he, bel⟩ => ?_
  subst he
  exact ⟨_, rfl, _, _, _, [], _, [], hW', trodAll_mk1 (shut_bool Tryf.underlying4 _), (trodAll_cons_mk (Below.trod laidOut (by kernel_rfl) (of_decide_eq_true (by kernel_rfl)) k0 bel lt0) (trodAll_cons_mk (Below.trod laidOut (by kernel_rfl) (of_decide_eq_true (by kernel_rfl)) k1 bel lt1) trodAll_mk0)), rfl, bel.frame _, fun h => by cases h⟩

theorem fnEnterSkipsLeadingSpace_told : Rows.FnEnterSkipsLeadingSpaceToldSaid :=
  Claim7.holds_of_told_any 5 Tryf.f5 "fmt.errorf" [] [] _ _ _ (by kernel_rfl) rfl rfl rfl laidOutP (by kernel_rfl) rfl ⟨rfl, rfl, rfl, rfl, rfl, rfl, rfl⟩ rfl rfl (by kernel_rfl) (by kernel_rfl) Tryf.func5 (by kernel_rfl)
    (of_decide_eq_true (by kernel_rfl)) (by unfold Func.isWrapper; first | (rw [if_pos (by decide +kernel)]; kernel_rfl) | (rw [if_neg (by decide +kernel)]; exact ⟨rfl, rfl⟩)) pstops.symm rfl pknobs.symm (by kernel_rfl)
    (by kernel_rfl) (by kernel_rfl) (by kernel_rfl) (by kernel_rfl) (by kernel_rfl) (by kernel_rfl) (by kernel_rfl) (by kernel_rfl) (by kernel_rfl) rfl (by kernel_rfl) rfl rfl
    rfl rfl
    rfl (by kernel_rfl) (by kernel_rfl) (by kernel_rfl) (by decide) (by kernel_rfl)
    (OpenClaim.moreEntering_of (by kernel_rfl) (by kernel_rfl) (by kernel_rfl) (by kernel_rfl) (by kernel_rfl) (by kernel_rfl) (by kernel_rfl) (by kernel_rfl) (by kernel_rfl) (by kernel_rfl))
    ⟨_, WideRow.started_initial, pquiet _⟩
    (fun os started _ H enc _ => skips_lifted os started H enc)

end Go.Proofs.Qxb6616904aFmt
