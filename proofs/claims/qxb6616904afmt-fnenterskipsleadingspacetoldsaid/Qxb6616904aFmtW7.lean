import Derived.Test.Qxb6616904aFmtW6
namespace Go.Proofs.Qxb6616904aFmt
set_option linter.unusedVariables false
set_option linter.unusedSimpArgs false
open Go.RowKit Go.Extern.Stop Go.Stop Go.Extern

theorem row_newlevel (w : World) (b : Nat) (hb : b = w.heap.size) : (w.alloc (.cells #[.int .u8 0, .bool false, .slice none 0 0, .slice none 0 0] 55)).rowIs b 55 4 (fun j => #[Value.int .u8 0, .bool false, .slice none 0 0, .slice none 0 0][j]!) := by
  subst hb
  exact World.rowIs_alloc w #[.int .u8 0, .bool false, .slice none 0 0, .slice none 0 0] 55 _ (fun i hi => by
    have hi : i < 4 := hi
    match i, hi with
    | 0, _ => rfl
    | 1, _ => rfl
    | 2, _ => rfl
    | 3, _ => rfl)

set_option maxHeartbeats 2000000 in
theorem enter_grow (rb dc : Nat) (da la : Option Addr) (D : List Int) (pos len : Nat) (g : Nat → Value) (w : World) (hlen : D.length ≤ 1048576) (hpos : pos ≤ D.length)
    (hr : Hid (w.rowIs rb 45 4 (rdF (.slice da D.length dc) (.int .i64 pos) .nilIface (.slice la len len)))) (hb : Hid (Bs w da D)) (hlo : Hid (Lo da rb)) (hl : len < 10000)
    (hla : Hid (la = none ∧ len = 0 ∨ ∃ lb, la = some ⟨lb, 0, none⟩ ∧ lb ≠ rb ∧ w.rowIs lb 55 (len * 4) g))
    (hc : pk D (skip D pos) = 91 ∨ pk D (skip D pos) = 123) :
    Calls Tryf.prog 11 #[.pointer (some ⟨rb, 0, none⟩)] w fun e w' => e = .returned (.tuple #[]) ∧
      ∃ lb C g' w1, Fr rb w w1 ∧ w.heap.size ≤ lb ∧ w1.rowIs rb 45 4 (rdF (.slice da D.length dc) (.int .i64 ((skip D pos : Nat) + 1)) .nilIface (.slice (some ⟨lb, 0, none⟩) (len + 1) C)) ∧ len + 1 ≤ C ∧ C ≤ 9223372036854775807 ∧
        w1.rowIs lb 55 (C * 4) g' ∧ (∀ j, j < len * 4 → g' j = g j) ∧ (∀ k, len ≤ k → k < C → g' (k * 4) = .int .u8 0 ∧ g' (k * 4 + 1) = .bool false ∧ g' (k * 4 + 2) = .slice none 0 0 ∧ g' (k * 4 + 3) = .slice none 0 0) ∧
        w' = (((w1.setCell ⟨lb, len * 4, none⟩ (.int .u8 (closer (pk D (skip D pos))))).setCell ⟨lb, len * 4 + 1, none⟩ (.bool false)).setCell ⟨lb, len * 4 + 2, none⟩ (.slice none 0 0)) := by
  have hsl := skip_le hpos
  have hl' : ((len : Int) == 10000) = false := by simp; omega
  rcases hc with hc | hc
  · have hc1 : (pk D (skip D pos) == 91) = true := by simp [hc]
    have HC : Hid (closer (pk D (skip D pos)) = 93) := closer_yes hc1
    clear hc
    go_enter Tryf.func11, Tryf.ntmps11
    go_wp2_with fail
    refine (skipSpace_rd rb dc da D pos _ _ _ hlen hpos hr.out hb.out).mono ?_
    rintro e w1 ⟨rfl, hf1, hr1⟩
    have hb1 : Hid (Bs w1 da D) := hb.out.later (hf1.out.below (Nat.le_refl _) hr.out.lt) hlo.out
    have c0 := rd0 hr1.out
    have c1 := rd1 hr1.out
    have c2 := rd2 hr1.out
    have c3 := rd3 hr1.out
    have f1 := hr1.out.frozen 1
    have f3 := hr1.out.frozen 3
    go_wp2_with (first | (go_at_call 28; refine (peek_any rb dc da D (skip D pos) _ c0 c1 hb1).mono ?_; rintro e w' ⟨rfl, rfl⟩) | fail)
    go_quiet (fail)
    go_wp2_with (at_builtin; refine wpList_append_level _ rfl (.tmp 76) (.tmp 78) rfl la len g rfl ?qla (by omega) _ rfl ?qad ?qk)
    case qla =>
      rcases hla.out with h | ⟨lb, e, hne, hrow⟩
      · exact .inl h
      · exact .inr ⟨lb, e, (rowIs_drewN ((hf1.out.row hrow hne).setOther hne _)).alloc _⟩
    case qad => exact row_newlevel _ _ (by simp)
    case qk =>
      intro C g' w2 hC1 hC2 hbe hsz hrow hold hnew
      have hrb : rb < w'.heap.size := hr1.out.lt
      have hr2 : Hid (w2.rowIs rb 45 4 (rdF (.slice da D.length dc) (.int .i64 ((skip D pos : Nat) + 1)) .nilIface (.slice la len len))) :=
        ((rowIs_drewN (rdS1 hr1.out _)).alloc _).of_block (hbe.block rb (by first | omega | (simp; omega)))
      have c0' := rd0 hr2.out
      have c1' := rd1 hr2.out
      have c2' := rd2 hr2.out
      have c3' := rd3 hr2.out
      have f3' := hr2.out.frozen 3
      have HB : Hid _ := hide hbe
      have HR : Hid _ := hide hrow
      have HO : Hid _ := hide hold
      have HN : Hid _ := hide hnew
      have hlbrb : ¬ rb = w'.heap.size + 1 := by omega
      have hlbrb' : ¬ w'.heap.size + 1 = rb := by omega
      obtain ⟨n0, n1, n2, n3⟩ := hnew len (Nat.le_refl _) (by omega)
      have l0 := hrow.cell (i := len * 4) (by omega)
      have l1 := hrow.cell (i := len * 4 + 1) (by omega)
      have l2 := hrow.cell (i := len * 4 + 2) (by omega)
      rw [n0] at l0
      rw [n1] at l1
      rw [n2] at l2
      have lf0 := hrow.frozen (len * 4)
      have lf1 := hrow.frozen (len * 4 + 1)
      have lf2 := hrow.frozen (len * 4 + 2)
      have hfr : Hid (Fr rb w w2) := (((hf1.out.setCell _).drewN).trans (Fr.ofBelow ((Below.refl _ _).alloc (Nat.le_refl _) _))).trans (Fr.ofBelowB hbe (by simp))
      have hge : Hid (w.heap.size ≤ w'.heap.size + 1) := Nat.le_trans hf1.out.size (Nat.le_succ _)
      clear hbe hrow hold hnew hsz n0 n1 n2 n3
      go_wp2_with fail
      go_quiet (fail)
      go_wp2_with fail
      refine (reset_any (w'.heap.size + 1) (len * 4 + 2) _ (by go_simp) (by go_simp)).mono ?_
      rintro e w3 ⟨rfl, rfl⟩
      go_wp2
      go_end0
      refine ⟨rfl, w'.heap.size + 1, C, g', _, ?_, hge.out, ?_, hC1, hC2, ?_, HO.out, HN.out, by rw [HC.out]⟩
      · exact (hfr.out.setCell _).drewN
      · exact rowIs_drewN (rdS3 hr2.out _)
      · exact rowIs_drewN (HR.out.setOther hlbrb' _)
  · have hc1 : (pk D (skip D pos) == 91) = false := by simp [hc]
    have hc2 : (pk D (skip D pos) == 123) = true := by simp [hc]
    have HC : Hid (closer (pk D (skip D pos)) = 125) := closer_no hc1
    clear hc
    go_enter Tryf.func11, Tryf.ntmps11
    go_wp2_with fail
    refine (skipSpace_rd rb dc da D pos _ _ _ hlen hpos hr.out hb.out).mono ?_
    rintro e w1 ⟨rfl, hf1, hr1⟩
    have hb1 : Hid (Bs w1 da D) := hb.out.later (hf1.out.below (Nat.le_refl _) hr.out.lt) hlo.out
    have c0 := rd0 hr1.out
    have c1 := rd1 hr1.out
    have c2 := rd2 hr1.out
    have c3 := rd3 hr1.out
    have f1 := hr1.out.frozen 1
    have f3 := hr1.out.frozen 3
    go_wp2_with (first | (go_at_call 28; refine (peek_any rb dc da D (skip D pos) _ c0 c1 hb1).mono ?_; rintro e w' ⟨rfl, rfl⟩) | fail)
    go_quiet (fail)
    go_wp2_with (at_builtin; refine wpList_append_level _ rfl (.tmp 76) (.tmp 78) rfl la len g rfl ?rla (by omega) _ rfl ?rad ?rk)
    case rla =>
      rcases hla.out with h | ⟨lb, e, hne, hrow⟩
      · exact .inl h
      · exact .inr ⟨lb, e, (rowIs_drewN ((hf1.out.row hrow hne).setOther hne _)).alloc _⟩
    case rad => exact row_newlevel _ _ (by simp)
    case rk =>
      intro C g' w2 hC1 hC2 hbe hsz hrow hold hnew
      have hrb : rb < w'.heap.size := hr1.out.lt
      have hr2 : Hid (w2.rowIs rb 45 4 (rdF (.slice da D.length dc) (.int .i64 ((skip D pos : Nat) + 1)) .nilIface (.slice la len len))) :=
        ((rowIs_drewN (rdS1 hr1.out _)).alloc _).of_block (hbe.block rb (by first | omega | (simp; omega)))
      have c0' := rd0 hr2.out
      have c1' := rd1 hr2.out
      have c2' := rd2 hr2.out
      have c3' := rd3 hr2.out
      have f3' := hr2.out.frozen 3
      have HB : Hid _ := hide hbe
      have HR : Hid _ := hide hrow
      have HO : Hid _ := hide hold
      have HN : Hid _ := hide hnew
      have hlbrb : ¬ rb = w'.heap.size + 1 := by omega
      have hlbrb' : ¬ w'.heap.size + 1 = rb := by omega
      obtain ⟨n0, n1, n2, n3⟩ := hnew len (Nat.le_refl _) (by omega)
      have l0 := hrow.cell (i := len * 4) (by omega)
      have l1 := hrow.cell (i := len * 4 + 1) (by omega)
      have l2 := hrow.cell (i := len * 4 + 2) (by omega)
      rw [n0] at l0
      rw [n1] at l1
      rw [n2] at l2
      have lf0 := hrow.frozen (len * 4)
      have lf1 := hrow.frozen (len * 4 + 1)
      have lf2 := hrow.frozen (len * 4 + 2)
      have hfr : Hid (Fr rb w w2) := (((hf1.out.setCell _).drewN).trans (Fr.ofBelow ((Below.refl _ _).alloc (Nat.le_refl _) _))).trans (Fr.ofBelowB hbe (by simp))
      have hge : Hid (w.heap.size ≤ w'.heap.size + 1) := Nat.le_trans hf1.out.size (Nat.le_succ _)
      clear hbe hrow hold hnew hsz n0 n1 n2 n3
      go_wp2_with fail
      go_quiet (fail)
      go_wp2_with fail
      refine (reset_any (w'.heap.size + 1) (len * 4 + 2) _ (by go_simp) (by go_simp)).mono ?_
      rintro e w3 ⟨rfl, rfl⟩
      go_wp2
      go_end0
      refine ⟨rfl, w'.heap.size + 1, C, g', _, ?_, hge.out, ?_, hC1, hC2, ?_, HO.out, HN.out, by rw [HC.out]⟩
      · exact (hfr.out.setCell _).drewN
      · exact rowIs_drewN (rdS3 hr2.out _)
      · exact rowIs_drewN (HR.out.setOther hlbrb' _)

end Go.Proofs.Qxb6616904aFmt
