import Derived.Test.Qxb6616904aFmtW4
namespace Go.Proofs.Qxb6616904aFmt
set_option linter.unusedVariables false
set_option linter.unusedSimpArgs false
open Go.RowKit Go.Extern.Stop Go.Stop Go.Extern

set_option maxHeartbeats 2000000 in
theorem enter_room (rb lb dc : Nat) (da : Option Addr) (D : List Int) (pos len cap : Nat) (g : Nat → Value) (x : Int) (b : Bool) (w : World) (hlen : D.length ≤ 1048576) (hpos : pos ≤ D.length)
    (hr : Hid (w.rowIs rb 45 4 (rdF (.slice da D.length dc) (.int .i64 pos) .nilIface (.slice (some ⟨lb, 0, none⟩) len cap)))) (hb : Hid (Bs w da D)) (hlo : Hid (Lo da rb)) (hl : len < 10000) (hcap : cap ≤ 9223372036854775807) (hlc : len < cap)
    (hne : ¬ lb = rb) (hg : Hid (w.rowIs lb 55 (cap * 4) g)) (g0 : Hid (g (len * 4) = .int .u8 x)) (g1 : Hid (g (len * 4 + 1) = .bool b)) (g2 : Hid (g (len * 4 + 2) = .slice none 0 0))
    (hc : pk D (skip D pos) = 91 ∨ pk D (skip D pos) = 123) :
    Calls Tryf.prog 11 #[.pointer (some ⟨rb, 0, none⟩)] w fun e w' => e = .returned (.tuple #[]) ∧
      ∃ w1, Fr rb w w1 ∧ w1.rowIs rb 45 4 (rdF (.slice da D.length dc) (.int .i64 ((skip D pos : Nat) + 1)) .nilIface (.slice (some ⟨lb, 0, none⟩) (len + 1) cap)) ∧
        w' = (((w1.setCell ⟨lb, len * 4, none⟩ (.int .u8 (closer (pk D (skip D pos))))).setCell ⟨lb, len * 4 + 1, none⟩ (.bool false)).setCell ⟨lb, len * 4 + 2, none⟩ (.slice none 0 0)) := by
  have hsl := skip_le hpos
  have hne' : ¬ rb = lb := fun h => hne h.symm
  have hl' : ((len : Int) == 10000) = false := by simp; omega
  rcases hc with hc | hc
  · have hc1 : (pk D (skip D pos) == 91) = true := by simp [hc]
    have HC : Hid (closer (pk D (skip D pos)) = 93) := closer_yes hc1
    clear hc
    go_enter Tryf.func11, Tryf.ntmps11
    go_wp2_with fail
    refine (skipSpace_rd rb dc da D pos _ _ _ hlen hpos hr.out hb.out).mono ?_
    rintro e w1 ⟨rfl, hf1, hr1⟩
    have hb1 : Hid (Bs w1 da D) := hb.out.later (hf1.out.below (Nat.le_refl _) hr.out.lt) hlo.out
    have c0 := rd0 hr1.out
    have c1 := rd1 hr1.out
    have c2 := rd2 hr1.out
    have c3 := rd3 hr1.out
    have f1 := hr1.out.frozen 1
    have f3 := hr1.out.frozen 3
    have hg1 : Hid (w1.rowIs lb 55 (cap * 4) g) := hf1.out.row hg.out hne
    have l0 := hg1.out.cell (i := len * 4) (by omega)
    have l1 := hg1.out.cell (i := len * 4 + 1) (by omega)
    have l2 := hg1.out.cell (i := len * 4 + 2) (by omega)
    rw [g0.out] at l0
    rw [g1.out] at l1
    rw [g2.out] at l2
    have lf0 := hg1.out.frozen (len * 4)
    have lf1 := hg1.out.frozen (len * 4 + 1)
    have lf2 := hg1.out.frozen (len * 4 + 2)
    go_wp2_with (first | (go_at_call 28; refine (peek_any rb dc da D (skip D pos) _ c0 c1 hb1).mono ?_; rintro e w' ⟨rfl, rfl⟩) | fail)
    go_quiet (fail)
    go_wp2_with fail
    go_region
    go_wp2_with fail
    go_quiet (fail)
    go_wp2_with fail
    refine (reset_any lb (len * 4 + 2) _ (by go_simp) (by go_simp)).mono ?_
    rintro e w2 ⟨rfl, rfl⟩
    go_wp2
    go_end0
    refine ⟨rfl, _, ?_, ?_, by rw [HC.out]⟩
    · exact (((hf1.out.setCell _).drewN).setCell _).drewN
    · exact rowIs_drewN (rdS3 (rowIs_drewN (rdS1 hr1.out _)) _)
  · have hc1 : (pk D (skip D pos) == 91) = false := by simp [hc]
    have hc2 : (pk D (skip D pos) == 123) = true := by simp [hc]
    have HC : Hid (closer (pk D (skip D pos)) = 125) := closer_no hc1
    clear hc
    go_enter Tryf.func11, Tryf.ntmps11
    go_wp2_with fail
    refine (skipSpace_rd rb dc da D pos _ _ _ hlen hpos hr.out hb.out).mono ?_
    rintro e w1 ⟨rfl, hf1, hr1⟩
    have hb1 : Hid (Bs w1 da D) := hb.out.later (hf1.out.below (Nat.le_refl _) hr.out.lt) hlo.out
    have c0 := rd0 hr1.out
    have c1 := rd1 hr1.out
    have c2 := rd2 hr1.out
    have c3 := rd3 hr1.out
    have f1 := hr1.out.frozen 1
    have f3 := hr1.out.frozen 3
    have hg1 : Hid (w1.rowIs lb 55 (cap * 4) g) := hf1.out.row hg.out hne
    have l0 := hg1.out.cell (i := len * 4) (by omega)
    have l1 := hg1.out.cell (i := len * 4 + 1) (by omega)
    have l2 := hg1.out.cell (i := len * 4 + 2) (by omega)
    rw [g0.out] at l0
    rw [g1.out] at l1
    rw [g2.out] at l2
    have lf0 := hg1.out.frozen (len * 4)
    have lf1 := hg1.out.frozen (len * 4 + 1)
    have lf2 := hg1.out.frozen (len * 4 + 2)
    go_wp2_with (first | (go_at_call 28; refine (peek_any rb dc da D (skip D pos) _ c0 c1 hb1).mono ?_; rintro e w' ⟨rfl, rfl⟩) | fail)
    go_quiet (fail)
    go_wp2_with fail
    go_region
    go_wp2_with fail
    go_quiet (fail)
    go_wp2_with fail
    refine (reset_any lb (len * 4 + 2) _ (by go_simp) (by go_simp)).mono ?_
    rintro e w2 ⟨rfl, rfl⟩
    go_wp2
    go_end0
    refine ⟨rfl, _, ?_, ?_, by rw [HC.out]⟩
    · exact (((hf1.out.setCell _).drewN).setCell _).drewN
    · exact rowIs_drewN (rdS3 (rowIs_drewN (rdS1 hr1.out _)) _)

end Go.Proofs.Qxb6616904aFmt
