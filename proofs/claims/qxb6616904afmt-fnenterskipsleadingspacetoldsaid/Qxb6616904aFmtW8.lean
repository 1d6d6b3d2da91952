import Derived.Test.Qxb6616904aFmtW7
namespace Go.Proofs.Qxb6616904aFmt
set_option linter.unusedVariables false
set_option linter.unusedSimpArgs false
open Go.RowKit Go.Extern.Stop Go.Stop Go.Extern

set_option maxHeartbeats 1000000 in
theorem more_err (rb : Nat) (t : TypeId) (v : Value) (w : World) (h2 : w.cell? ⟨rb, 2, none⟩ = some (.iface t v)) :
    Calls Tryf.prog 15 #[.pointer (some ⟨rb, 0, none⟩)] w fun e w' => e = .returned (.bool false) ∧ w' = w := by
  go_enter Tryf.func15, Tryf.ntmps15
  go_wp2
  go_ret
  exact ⟨rfl, rfl⟩

set_option maxHeartbeats 1000000 in
theorem more_none (rb cap : Nat) (la : Option Addr) (w : World) (h2 : w.cell? ⟨rb, 2, none⟩ = some .nilIface) (h3 : w.cell? ⟨rb, 3, none⟩ = some (.slice la 0 cap)) :
    Calls Tryf.prog 15 #[.pointer (some ⟨rb, 0, none⟩)] w fun e w' => e = .returned (.bool false) ∧ w' = w := by
  go_enter Tryf.func15, Tryf.ntmps15
  go_wp2
  go_ret
  exact ⟨rfl, rfl⟩

theorem lt_of_pk {D : List Int} {i : Nat} {c : Int} (h : (pk D i == c) = true) (hc : c ≠ 0) : i < D.length := by
  by_cases hi : i < D.length
  · exact hi
  · rw [pk_of_ge hi] at h
    simp at h
    exact absurd h.symm hc

set_option maxHeartbeats 2000000 in
theorem more_close (rb lb dc : Nat) (da : Option Addr) (D : List Int) (pos m cap : Nat) (g : Nat → Value) (x : Int) (b : Bool) (w : World) (hlen : D.length ≤ 1048576) (hpos : pos ≤ D.length)
    (hr : Hid (w.rowIs rb 45 4 (rdF (.slice da D.length dc) (.int .i64 pos) .nilIface (.slice (some ⟨lb, 0, none⟩) (m + 1) cap)))) (hb : Hid (Bs w da D)) (hlo : Hid (Lo da rb)) (hl : m < 10000) (hcap : cap ≤ 9223372036854775807) (hlc : m + 1 ≤ cap)
    (hne : ¬ lb = rb) (hg : Hid (w.rowIs lb 55 (cap * 4) g)) (g0 : Hid (g (m * 4) = .int .u8 x)) (g1 : Hid (g (m * 4 + 1) = .bool b))
    (hc : (pk D (skip D pos) == x) = true) :
    Calls Tryf.prog 15 #[.pointer (some ⟨rb, 0, none⟩)] w fun e w' => e = .returned (.bool false) ∧
      Fr rb w w' ∧ w'.rowIs rb 45 4 (rdF (.slice da D.length dc) (.int .i64 ((skip D pos : Nat) + 1)) .nilIface (.slice (some ⟨lb, 0, none⟩) m cap)) := by
  have hsl := skip_le hpos
  have hne' : ¬ rb = lb := fun h => hne h.symm
  have c2w := rd2 hr.out
  have c3w := rd3 hr.out
  go_enter Tryf.func15, Tryf.ntmps15
  go_wp2_with fail
  go_quiet (fail)
  go_wp2_with fail
  refine (skipSpace_rd rb dc da D pos _ _ _ hlen hpos (rowIs_drewN hr.out) hb.out).mono ?_
  rintro e w1 ⟨rfl, hf1', hr1⟩
  have hf1 : Hid (Fr rb w w1) := ((Fr.refl rb w).drewN).trans hf1'.out
  have hb1 : Hid (Bs w1 da D) := hb.out.later (hf1.out.below (Nat.le_refl _) hr.out.lt) hlo.out
  have c0 := rd0 hr1.out
  have c1 := rd1 hr1.out
  have c2 := rd2 hr1.out
  have c3 := rd3 hr1.out
  have f1 := hr1.out.frozen 1
  have f3 := hr1.out.frozen 3
  have hg1 : Hid (w1.rowIs lb 55 (cap * 4) g) := hf1.out.row hg.out hne
  have l0 := hg1.out.cell (i := m * 4) (by omega)
  have l1 := hg1.out.cell (i := m * 4 + 1) (by omega)
  rw [g0.out] at l0
  rw [g1.out] at l1
  have lf1 := hg1.out.frozen (m * 4 + 1)
  clear c2w c3w
  go_wp2_with (first | (go_at_call 28; refine (peek_any rb dc da D (skip D pos) _ c0 c1 hb1).mono ?_; rintro e w' ⟨rfl, rfl⟩) | fail)
  go_region
  go_wp2
  go_ret
  exact ⟨rfl, ((hf1.out.setCell _).drewN).setCell _, rdS3 (rowIs_drewN (rdS1 hr1.out _)) _⟩

set_option maxHeartbeats 2000000 in
theorem more_first (rb lb dc : Nat) (da : Option Addr) (D : List Int) (pos m cap : Nat) (g : Nat → Value) (x : Int) (w : World) (hlen : D.length ≤ 1048576) (hpos : pos ≤ D.length)
    (hr : Hid (w.rowIs rb 45 4 (rdF (.slice da D.length dc) (.int .i64 pos) .nilIface (.slice (some ⟨lb, 0, none⟩) (m + 1) cap)))) (hb : Hid (Bs w da D)) (hlo : Hid (Lo da rb)) (hl : m < 10000) (hcap : cap ≤ 9223372036854775807) (hlc : m + 1 ≤ cap)
    (hne : ¬ lb = rb) (hg : Hid (w.rowIs lb 55 (cap * 4) g)) (g0 : Hid (g (m * 4) = .int .u8 x)) (g1 : Hid (g (m * 4 + 1) = .bool false))
    (hc : (pk D (skip D pos) == x) = false) :
    Calls Tryf.prog 15 #[.pointer (some ⟨rb, 0, none⟩)] w fun e w' => e = .returned (.bool true) ∧
      ∃ w1, Fr rb w w1 ∧ w1.rowIs rb 45 4 (rdF (.slice da D.length dc) (.int .i64 (skip D pos)) .nilIface (.slice (some ⟨lb, 0, none⟩) (m + 1) cap)) ∧ w' = w1.setCell ⟨lb, m * 4 + 1, none⟩ (.bool true) := by
  have hsl := skip_le hpos
  have hne' : ¬ rb = lb := fun h => hne h.symm
  have c2w := rd2 hr.out
  have c3w := rd3 hr.out
  go_enter Tryf.func15, Tryf.ntmps15
  go_wp2_with fail
  go_quiet (fail)
  go_wp2_with fail
  refine (skipSpace_rd rb dc da D pos _ _ _ hlen hpos (rowIs_drewN hr.out) hb.out).mono ?_
  rintro e w1 ⟨rfl, hf1', hr1⟩
  have hf1 : Hid (Fr rb w w1) := ((Fr.refl rb w).drewN).trans hf1'.out
  have hb1 : Hid (Bs w1 da D) := hb.out.later (hf1.out.below (Nat.le_refl _) hr.out.lt) hlo.out
  have c0 := rd0 hr1.out
  have c1 := rd1 hr1.out
  have c2 := rd2 hr1.out
  have c3 := rd3 hr1.out
  have f1 := hr1.out.frozen 1
  have f3 := hr1.out.frozen 3
  have hg1 : Hid (w1.rowIs lb 55 (cap * 4) g) := hf1.out.row hg.out hne
  have l0 := hg1.out.cell (i := m * 4) (by omega)
  have l1 := hg1.out.cell (i := m * 4 + 1) (by omega)
  rw [g0.out] at l0
  rw [g1.out] at l1
  have lf1 := hg1.out.frozen (m * 4 + 1)
  clear c2w c3w
  go_wp2_with (first | (go_at_call 28; refine (peek_any rb dc da D (skip D pos) _ c0 c1 hb1).mono ?_; rintro e w' ⟨rfl, rfl⟩) | fail)
  go_ret
  exact ⟨rfl, _, hf1.out, hr1.out, rfl⟩

set_option maxHeartbeats 2000000 in
theorem more_comma (rb lb dc : Nat) (da : Option Addr) (D : List Int) (pos m cap : Nat) (g : Nat → Value) (x : Int) (w : World) (hlen : D.length ≤ 1048576) (hpos : pos ≤ D.length)
    (hr : Hid (w.rowIs rb 45 4 (rdF (.slice da D.length dc) (.int .i64 pos) .nilIface (.slice (some ⟨lb, 0, none⟩) (m + 1) cap)))) (hb : Hid (Bs w da D)) (hlo : Hid (Lo da rb)) (hl : m < 10000) (hcap : cap ≤ 9223372036854775807) (hlc : m + 1 ≤ cap)
    (hne : ¬ lb = rb) (hg : Hid (w.rowIs lb 55 (cap * 4) g)) (g0 : Hid (g (m * 4) = .int .u8 x)) (g1 : Hid (g (m * 4 + 1) = .bool true))
    (hc : (pk D (skip D pos) == x) = false) (hc2 : (pk D (skip D pos) == 44) = true) :
    Calls Tryf.prog 15 #[.pointer (some ⟨rb, 0, none⟩)] w fun e w' => e = .returned (.bool true) ∧
      ∃ w1, Fr rb w w1 ∧ w1.rowIs rb 45 4 (rdF (.slice da D.length dc) (.int .i64 (skip D (skip D pos + 1))) .nilIface (.slice (some ⟨lb, 0, none⟩) (m + 1) cap)) ∧ w' = w1.setCell ⟨lb, m * 4 + 1, none⟩ (.bool true) := by
  have hlt := lt_of_pk hc2 (by decide)
  have hsl := skip_le hpos
  have hne' : ¬ rb = lb := fun h => hne h.symm
  have c2w := rd2 hr.out
  have c3w := rd3 hr.out
  go_enter Tryf.func15, Tryf.ntmps15
  go_wp2_with fail
  go_quiet (fail)
  go_wp2_with fail
  refine (skipSpace_rd rb dc da D pos _ _ _ hlen hpos (rowIs_drewN hr.out) hb.out).mono ?_
  rintro e w1 ⟨rfl, hf1', hr1⟩
  have hf1 : Hid (Fr rb w w1) := ((Fr.refl rb w).drewN).trans hf1'.out
  have hb1 : Hid (Bs w1 da D) := hb.out.later (hf1.out.below (Nat.le_refl _) hr.out.lt) hlo.out
  have c0 := rd0 hr1.out
  have c1 := rd1 hr1.out
  have c2 := rd2 hr1.out
  have c3 := rd3 hr1.out
  have f1 := hr1.out.frozen 1
  have f3 := hr1.out.frozen 3
  have hg1 : Hid (w1.rowIs lb 55 (cap * 4) g) := hf1.out.row hg.out hne
  have l0 := hg1.out.cell (i := m * 4) (by omega)
  have l1 := hg1.out.cell (i := m * 4 + 1) (by omega)
  rw [g0.out] at l0
  rw [g1.out] at l1
  have lf1 := hg1.out.frozen (m * 4 + 1)
  clear c2w c3w
  go_wp2_with (first | (go_at_call 28; refine (peek_any rb dc da D (skip D pos) _ c0 c1 hb1).mono ?_; rintro e w' ⟨rfl, rfl⟩) | fail)
  refine (skipSpace_rd rb dc da D (skip D pos + 1) _ _ _ hlen hlt (rdS1 hr1.out _) (hb1.out.later ((Fr.refl rb _).setCell _ |>.below (Nat.le_refl _) hr1.out.lt) hlo.out)).mono ?_
  rintro e w2 ⟨rfl, hf2, hr2⟩
  have hf3 : Hid (Fr rb w w2) := (hf1.out.setCell _).trans hf2.out
  have hg2 : Hid (w2.rowIs lb 55 (cap * 4) g) := hf3.out.row hg.out hne
  have k1 := hg2.out.cell (i := m * 4 + 1) (by omega)
  rw [g1.out] at k1
  have kf1 := hg2.out.frozen (m * 4 + 1)
  go_wp2
  go_ret
  exact ⟨rfl, _, hf3.out, hr2.out, rfl⟩

set_option maxHeartbeats 2000000 in
theorem more_fail (F : Interp) (rb lb dc : Nat) (da : Option Addr) (D : List Int) (pos m cap : Nat) (g : Nat → Value) (x : Int) (w : World) (hF : F.answers w.tape) (hlen : D.length ≤ 1048576) (hpos : pos ≤ D.length)
    (hr : Hid (w.rowIs rb 45 4 (rdF (.slice da D.length dc) (.int .i64 pos) .nilIface (.slice (some ⟨lb, 0, none⟩) (m + 1) cap)))) (hb : Hid (Bs w da D)) (hlo : Hid (Lo da rb)) (hl : m < 10000) (hcap : cap ≤ 9223372036854775807) (hlc : m + 1 ≤ cap)
    (hne : ¬ lb = rb) (hg : Hid (w.rowIs lb 55 (cap * 4) g)) (g0 : Hid (g (m * 4) = .int .u8 x)) (g1 : Hid (g (m * 4 + 1) = .bool true))
    (hc : (pk D (skip D pos) == x) = false) (hc2 : (pk D (skip D pos) == 44) = false) :
    Calls Tryf.prog 15 #[.pointer (some ⟨rb, 0, none⟩)] w fun e w' => e = .returned (.bool false) ∧
      Fr rb w w' ∧ ∃ v, w'.rowIs rb 45 4 (rdF (.slice da D.length dc) (.int .i64 (skip D pos)) (.iface 62 v) (.slice (some ⟨lb, 0, none⟩) (m + 1) cap)) := by
  have hsl := skip_le hpos
  have hne' : ¬ rb = lb := fun h => hne h.symm
  have c2w := rd2 hr.out
  have c3w := rd3 hr.out
  go_enter Tryf.func15, Tryf.ntmps15
  go_wp2_with fail
  go_quiet (fail)
  go_wp2_with fail
  refine (skipSpace_rd rb dc da D pos _ _ _ hlen hpos (rowIs_drewN hr.out) hb.out).mono ?_
  rintro e w1 ⟨rfl, hf1', hr1⟩
  have hf1 : Hid (Fr rb w w1) := ((Fr.refl rb w).drewN).trans hf1'.out
  have hb1 : Hid (Bs w1 da D) := hb.out.later (hf1.out.below (Nat.le_refl _) hr.out.lt) hlo.out
  have c0 := rd0 hr1.out
  have c1 := rd1 hr1.out
  have c2 := rd2 hr1.out
  have c3 := rd3 hr1.out
  have f1 := hr1.out.frozen 1
  have f3 := hr1.out.frozen 3
  have hg1 : Hid (w1.rowIs lb 55 (cap * 4) g) := hf1.out.row hg.out hne
  have l0 := hg1.out.cell (i := m * 4) (by omega)
  have l1 := hg1.out.cell (i := m * 4 + 1) (by omega)
  rw [g0.out] at l0
  rw [g1.out] at l1
  have lf1 := hg1.out.frozen (m * 4 + 1)
  clear c2w c3w
  go_wp2_with (first | (go_at_call 28; refine (peek_any rb dc da D (skip D pos) _ c0 c1 hb1).mono ?_; rintro e w' ⟨rfl, rfl⟩) | fail)
  refine (failSyntax_rd F rb _ _ _ _ _ (by rw [hf1.out.tape]; exact hF) hr1.out).mono ?_
  rintro e w2 ⟨rfl, hf2, v, hr2⟩
  go_wp2
  go_ret
  exact ⟨rfl, hf1.out.trans hf2.out, v, hr2.out⟩

end Go.Proofs.Qxb6616904aFmt
