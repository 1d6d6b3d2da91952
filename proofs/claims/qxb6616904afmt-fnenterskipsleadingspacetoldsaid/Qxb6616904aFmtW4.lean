import Derived.Test.Qxb6616904aFmtW3
namespace Go.Proofs.Qxb6616904aFmt
open Go.RowKit Go.Extern.Stop Go.Stop Go.Extern

set_option maxHeartbeats 1000000 in
theorem enter_deep (F : Interp) (rb dc : Nat) (da la : Option Addr) (D : List Int) (pos len cap : Nat) (w : World) (hF : F.answers w.tape) (hlen : D.length ≤ 1048576) (hpos : pos ≤ D.length)
    (hr : Hid (w.rowIs rb 45 4 (rdF (.slice da D.length dc) (.int .i64 pos) .nilIface (.slice la len cap)))) (hb : Hid (Bs w da D)) (hlo : Hid (Lo da rb)) (hl : ((len : Int) == 10000) = true)
    (hc : pk D (skip D pos) = 91 ∨ pk D (skip D pos) = 123) :
    Calls Tryf.prog 11 #[.pointer (some ⟨rb, 0, none⟩)] w fun e w' => e = .returned (.tuple #[]) ∧ Fr rb w w' ∧ ∃ v, w'.rowIs rb 45 4 (rdF (.slice da D.length dc) (.int .i64 (skip D pos)) (.iface 62 v) (.slice la len cap)) := by
  have hsl := skip_le hpos
  rcases hc with hc | hc
  · have hc1 : (pk D (skip D pos) == 91) = true := by simp [hc]
    clear hc
    go_enter Tryf.func11, Tryf.ntmps11
    go_wp2_with fail
    refine (skipSpace_rd rb dc da D pos _ _ _ hlen hpos hr.out hb.out).mono ?_
    rintro e w1 ⟨rfl, hf1, hr1⟩
    have hb1 : Hid (Bs w1 da D) := hb.out.later (hf1.out.below (Nat.le_refl _) hr.out.lt) hlo.out
    have c0 := rd0 hr1.out
    have c1 := rd1 hr1.out
    have c2 := rd2 hr1.out
    have c3 := rd3 hr1.out
    have hF1 : Hid (F.answers w1.tape) := by rw [hf1.out.tape]; exact hF
    go_wp2_with (first | (go_at_call 28; refine (peek_any rb dc da D (skip D pos) _ c0 c1 hb1).mono ?_; rintro e w' ⟨rfl, rfl⟩) | fail)
    refine (errorf2 F _ ((skip D pos : Nat) + 1) 10000 _ (by exact hF1.out) (by go_simp) (by go_simp)).mono ?_
    rintro e w2 ⟨a, rfl, hb2⟩
    have hbe := ((Below.refl _ _).alloc (Nat.le_refl _) _).trans (hb2.mono (by simp))
    have hr2 := hr1.out.of_block (hbe.block rb hr1.out.lt)
    have HR2 := hide hr2
    have HB2 := hide hbe
    clear hbe hr2 hb2
    go_wp2_with fail
    refine (fail_any rb 62 _ _ (rd2 (unhide HR2)) ((unhide HR2).frozen 2)).mono ?_
    rintro e w3 ⟨rfl, rfl⟩
    go_wp2
    try simp only [Exit.inBlock, Exit.then]
    refine bodyPost_ret (results_none rfl _ _ _) rfl ?_
    exact ⟨rfl, (hf1.out.trans (Fr.ofBelow (unhide HB2))).setCell _, _, rdS2 (unhide HR2) _⟩
  · have hc1 : (pk D (skip D pos) == 91) = false := by simp [hc]
    have hc2 : (pk D (skip D pos) == 123) = true := by simp [hc]
    clear hc
    go_enter Tryf.func11, Tryf.ntmps11
    go_wp2_with fail
    refine (skipSpace_rd rb dc da D pos _ _ _ hlen hpos hr.out hb.out).mono ?_
    rintro e w1 ⟨rfl, hf1, hr1⟩
    have hb1 : Hid (Bs w1 da D) := hb.out.later (hf1.out.below (Nat.le_refl _) hr.out.lt) hlo.out
    have c0 := rd0 hr1.out
    have c1 := rd1 hr1.out
    have c2 := rd2 hr1.out
    have c3 := rd3 hr1.out
    have hF1 : Hid (F.answers w1.tape) := by rw [hf1.out.tape]; exact hF
    go_wp2_with (first | (go_at_call 28; refine (peek_any rb dc da D (skip D pos) _ c0 c1 hb1).mono ?_; rintro e w' ⟨rfl, rfl⟩) | fail)
    refine (errorf2 F _ ((skip D pos : Nat) + 1) 10000 _ (by exact hF1.out) (by go_simp) (by go_simp)).mono ?_
    rintro e w2 ⟨a, rfl, hb2⟩
    have hbe := ((Below.refl _ _).alloc (Nat.le_refl _) _).trans (hb2.mono (by simp))
    have hr2 := hr1.out.of_block (hbe.block rb hr1.out.lt)
    have HR2 := hide hr2
    have HB2 := hide hbe
    clear hbe hr2 hb2
    go_wp2_with fail
    refine (fail_any rb 62 _ _ (rd2 (unhide HR2)) ((unhide HR2).frozen 2)).mono ?_
    rintro e w3 ⟨rfl, rfl⟩
    go_wp2
    try simp only [Exit.inBlock, Exit.then]
    refine bodyPost_ret (results_none rfl _ _ _) rfl ?_
    exact ⟨rfl, (hf1.out.trans (Fr.ofBelow (unhide HB2))).setCell _, _, rdS2 (unhide HR2) _⟩

end Go.Proofs.Qxb6616904aFmt
