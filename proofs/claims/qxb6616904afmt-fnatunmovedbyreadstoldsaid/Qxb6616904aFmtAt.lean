import Derived.Test.Qxb6616904aFmtW10
namespace Go.Proofs.Qxb6616904aFmt
set_option linter.unusedVariables false
set_option linter.unusedSimpArgs false
open Go.RowKit Go.Extern.Stop Go.Stop Go.Extern

/-- the reader at its start -/
def rs0 : RS := ⟨0, false, []⟩

set_option maxHeartbeats 400000 in
theorem at_long (a : Option Addr) (c : Nat) (D : List Int) (i : Int) (w : World) (hlen : ¬ D.length ≤ 1048576) :
    Calls Tryf.prog 3 #[.slice a D.length c, .int .i64 i] w fun e w' => e = .returned (.bool true) ∧ Below w.heap.size w w' := by
  go_enter Tryf.func3, Tryf.ntmps3
  go_wp2_with (go_at_call 8; refine (zzBytes8_no _ _ _ _ _ hlen).mono ?_; rintro e w' ⟨rfl, rfl⟩)
  go_ret
  exact ⟨rfl, Below.refl _ _⟩

set_option maxHeartbeats 400000 in
theorem at_neg (a : Option Addr) (c : Nat) (D : List Int) (i : Int) (w : World) (hlen : D.length ≤ 1048576) (hi : i < 0) :
    Calls Tryf.prog 3 #[.slice a D.length c, .int .i64 i] w fun e w' => e = .returned (.bool true) ∧ Below w.heap.size w w' := by
  go_enter Tryf.func3, Tryf.ntmps3
  go_wp2_with (go_at_call 8; refine (zzBytes8_yes _ _ _ _ _ hlen).mono ?_; rintro e w' ⟨rfl, rfl⟩)
  go_ret
  exact ⟨rfl, Below.refl _ _⟩

theorem below_step {B : Nat} {w w1 w2 : World} (h : Below B w w1) (k : Below w1.heap.size w1 w2) (hB : B ≤ w.heap.size) : Below B w w2 := h.trans (k.mono (Nat.le_trans hB h.size))

set_option maxHeartbeats 4000000 in
theorem at_out (F : Interp) (a : Option Addr) (c : Nat) (D : List Int) (i : Nat) (w : World) (hF : F.answers w.tape) (hlen : D.length ≤ 1048576) (hb : Hid (Bo w a D))
    (hent : Hid (enter D ⟨0, false, []⟩ = ⟨skip D 0, true, []⟩)) :
    Calls Tryf.prog 3 #[.slice a D.length c, .int .i64 i] w fun e w' => e = .returned (.bool true) ∧ Below w.heap.size w w' := by
  have hiN : ¬ (i : Int) < 0 := by omega
  go_enter Tryf.func3, Tryf.ntmps3
  go_wp2_with (go_at_call 8; refine (zzBytes8_yes _ _ _ _ _ hlen).mono ?_; rintro e w' ⟨rfl, hw⟩; obtain rfl := hw.symm; clear hw)
  refine (zzClone_any a c D _ hlen hb).mono ?_
  rintro e w1 ⟨a1, rfl, hb1, hbel1⟩
  have HB1 := hide hb1
  have HL1 := hide hbel1
  clear hb1 hbel1
  go_wp2_with fail
  refine (zzClone_any a1 _ D _ hlen (Bs.bo HB1.out)).mono ?_
  rintro e w2 ⟨a2, rfl, hb2, hbel2⟩
  have HB2 := hide hb2
  have HL2 := hide (below_step HL1.out hbel2 (Nat.le_refl _))
  have HB12 := hide (HB1.out.later hbel2 HB1.out.lo)
  clear hb2 hbel2
  go_wp2_with fail
  refine (newReader_rd a2 _ D _ hlen HB2.out).mono ?_
  rintro e w3 ⟨rfl, hbel3, hrd3⟩
  have HL3 := hide (below_step HL2.out hbel3 (Nat.le_refl _))
  have HR3 := hide hrd3
  have HB13 := hide (HB12.out.later hbel3 HB12.out.lo)
  clear hbel3 hrd3
  go_wp2_with fail
  refine (zzClone_any a1 _ D _ hlen (Bs.bo HB13.out)).mono ?_
  rintro e w4 ⟨a3, rfl, hb4, hbel4⟩
  have HB4 := hide hb4
  have HL4 := hide (below_step HL3.out hbel4 (Nat.le_refl _))
  have HR4 := hide (HR3.out.later hbel4 (Nat.le_refl _))
  have HB14 := hide (HB13.out.later hbel4 HB13.out.lo)
  clear hb4 hbel4
  go_wp2_with fail
  refine (newReader_rd a3 _ D _ hlen HB4.out).mono ?_
  rintro e w5 ⟨rfl, hbel5, hrd5⟩
  have HL5 := hide (below_step HL4.out hbel5 (Nat.le_refl _))
  have HL45 := hide hbel5
  have HR5 := hide hrd5
  clear hbel5 hrd5
  have HF5 := hide (show F.answers w5.tape by rw [HL5.out.tape]; exact hF)
  go_wp2_with fail
  refine (enter_rd F _ D _ _ HF5.out HR5.out rfl).mono ?_
  rintro e w6 ⟨rfl, hbel6, hrd6⟩
  have HL46 := hide (HL45.out.trans hbel6)
  clear hbel6
  have HL6 := hide (HL4.out.trans (HL46.out.mono HL4.out.size))
  have HF6 := hide (show F.answers w6.tape by rw [HL6.out.tape]; exact hF)
  have HB16 := hide (HB14.out.later HL46.out HB14.out.lo)
  have HR06 := hide (HR4.out.later HL46.out (Nat.le_refl _))
  rw [hent.out] at hrd6
  have HR6 := hide hrd6
  clear hrd6
  have hsl := skip_le (Nat.zero_le D.length)
  go_wp2_with fail
  refine (offset_rd _ D _ _ HR6.out).mono ?_
  rintro e w' ⟨rfl, hw⟩
  obtain rfl := hw.symm
  clear hw
  go_wp2_with fail
  refine (zzErr_rd_some _ D _ _ HR6.out rfl).mono ?_
  rintro e w' ⟨v, rfl, hw⟩
  obtain rfl := hw.symm
  clear hw
  have hq : spB (pk D (skip D 0)) = false := skip_not D 0
  by_cases hlt : skip D 0 < D.length
  · obtain ⟨db, rfl, hcl⟩ := HB16.out.cell hlt
    go_wp2_with fail
    refine (zzAt_rd _ D _ (skip D 0) _ HR6.out).mono ?_
    rintro e w' ⟨rfl, hw⟩
    obtain rfl := hw.symm
    clear hw
    go_wp2_with (first | (go_at_call 16; refine (zzIsSpace_any _ _).mono ?_; rintro e w' ⟨rfl, hw⟩; obtain rfl := hw.symm; clear hw) | fail)
    refine (zzAt_rd _ D _ i _ HR6.out).mono ?_
    rintro e w' ⟨rfl, hw⟩
    obtain rfl := hw.symm
    clear hw
    go_wp2_with fail
    refine (zzAt_rd _ D _ i _ HR06.out).mono ?_
    rintro e w' ⟨rfl, hw⟩
    obtain rfl := hw.symm
    clear hw
    go_wp2
    go_ret
    exact ⟨rfl, HL6.out⟩
  · have hz := pk_of_ge hlt
    rw [hz] at hq
    go_wp2_with fail
    refine (zzAt_rd _ D _ (skip D 0) _ HR6.out).mono ?_
    rintro e w' ⟨rfl, hw⟩
    obtain rfl := hw.symm
    clear hw
    go_wp2_with (first | (go_at_call 16; refine (zzIsSpace_any _ _).mono ?_; rintro e w' ⟨rfl, hw⟩; obtain rfl := hw.symm; clear hw) | fail)
    refine (zzAt_rd _ D _ i _ HR6.out).mono ?_
    rintro e w' ⟨rfl, hw⟩
    obtain rfl := hw.symm
    clear hw
    go_wp2_with fail
    refine (zzAt_rd _ D _ i _ HR06.out).mono ?_
    rintro e w' ⟨rfl, hw⟩
    obtain rfl := hw.symm
    clear hw
    go_wp2
    go_ret
    exact ⟨rfl, HL6.out⟩

set_option maxHeartbeats 4000000 in
theorem at_in (F : Interp) (a : Option Addr) (c : Nat) (D : List Int) (i : Nat) (w : World) (hF : F.answers w.tape) (hlen : D.length ≤ 1048576) (hb : Hid (Bo w a D))
    (hent : Hid (enter D ⟨0, false, []⟩ = ⟨skip D 0 + 1, false, [(closer (pk D (skip D 0)), false)]⟩)) (hop : (pk D (skip D 0) == 91) = true ∨ (pk D (skip D 0) == 123) = true) :
    Calls Tryf.prog 3 #[.slice a D.length c, .int .i64 i] w fun e w' => e = .returned (.bool true) ∧ Below w.heap.size w w' := by
  have hlt : skip D 0 < D.length := by rcases hop with h | h <;> exact lt_of_pk h (by decide)
  have HOP := hide hop
  clear hop
  have hiN : ¬ (i : Int) < 0 := by omega
  go_enter Tryf.func3, Tryf.ntmps3
  go_wp2_with (go_at_call 8; refine (zzBytes8_yes _ _ _ _ _ hlen).mono ?_; rintro e w' ⟨rfl, hw⟩; obtain rfl := hw.symm; clear hw)
  refine (zzClone_any a c D _ hlen hb).mono ?_
  rintro e w1 ⟨a1, rfl, hb1, hbel1⟩
  have HB1 := hide hb1
  have HL1 := hide hbel1
  clear hb1 hbel1
  go_wp2_with fail
  refine (zzClone_any a1 _ D _ hlen (Bs.bo HB1.out)).mono ?_
  rintro e w2 ⟨a2, rfl, hb2, hbel2⟩
  have HB2 := hide hb2
  have HL2 := hide (below_step HL1.out hbel2 (Nat.le_refl _))
  have HB12 := hide (HB1.out.later hbel2 HB1.out.lo)
  clear hb2 hbel2
  go_wp2_with fail
  refine (newReader_rd a2 _ D _ hlen HB2.out).mono ?_
  rintro e w3 ⟨rfl, hbel3, hrd3⟩
  have HL3 := hide (below_step HL2.out hbel3 (Nat.le_refl _))
  have HR3 := hide hrd3
  have HB13 := hide (HB12.out.later hbel3 HB12.out.lo)
  clear hbel3 hrd3
  go_wp2_with fail
  refine (zzClone_any a1 _ D _ hlen (Bs.bo HB13.out)).mono ?_
  rintro e w4 ⟨a3, rfl, hb4, hbel4⟩
  have HB4 := hide hb4
  have HL4 := hide (below_step HL3.out hbel4 (Nat.le_refl _))
  have HR4 := hide (HR3.out.later hbel4 (Nat.le_refl _))
  have HB14 := hide (HB13.out.later hbel4 HB13.out.lo)
  clear hb4 hbel4
  go_wp2_with fail
  refine (newReader_rd a3 _ D _ hlen HB4.out).mono ?_
  rintro e w5 ⟨rfl, hbel5, hrd5⟩
  have HL5 := hide (below_step HL4.out hbel5 (Nat.le_refl _))
  have HL45 := hide hbel5
  have HR5 := hide hrd5
  clear hbel5 hrd5
  have HF5 := hide (show F.answers w5.tape by rw [HL5.out.tape]; exact hF)
  go_wp2_with fail
  refine (enter_rd F _ D _ _ HF5.out HR5.out rfl).mono ?_
  rintro e w6 ⟨rfl, hbel6, hrd6⟩
  have HL46 := hide (HL45.out.trans hbel6)
  clear hbel6
  have HL6 := hide (HL4.out.trans (HL46.out.mono HL4.out.size))
  have HF6 := hide (show F.answers w6.tape by rw [HL6.out.tape]; exact hF)
  have HB16 := hide (HB14.out.later HL46.out HB14.out.lo)
  have HR06 := hide (HR4.out.later HL46.out (Nat.le_refl _))
  rw [hent.out] at hrd6
  have HR6 := hide hrd6
  clear hrd6
  go_wp2_with fail
  refine (offset_rd _ D _ _ HR6.out).mono ?_
  rintro e w' ⟨rfl, hw⟩
  obtain rfl := hw.symm
  clear hw
  go_wp2_with fail
  refine (zzErr_rd_nil _ D _ _ HR6.out rfl).mono ?_
  rintro e w' ⟨rfl, hw⟩
  obtain rfl := hw.symm
  clear hw
  obtain ⟨db, rfl, hcl⟩ := HB16.out.cell hlt
  go_wp2_with fail
  refine (zzAt_rd _ D _ (skip D 0) _ HR6.out).mono ?_
  rintro e w' ⟨rfl, hw⟩
  obtain rfl := hw.symm
  clear hw
  rcases HOP.out with h | h
  · have hq : (pk D (skip D 0) != 91) = false := by simp at h; simp [h]
    clear h
    go_wp2_with fail
    go_loopw [9] (fun t wr => ∃ k : Nat, k ≤ D.length + 1 ∧ t = .int .i64 k ∧ ∃ s, Hid (Rd wr w4.heap.size D s) ∧ Hid (Below w4.heap.size w4 wr)) (fun t _ => D.length + 1 - (intOf t).toNat)
    case atStart => exact ⟨0, by omega, rfl, _, HR6, HL46⟩
    case round =>
      obtain ⟨k, hk, rfl, s, HRs, HLs⟩ := hrel
      have HL := hide (HL4.out.trans (HLs.out.mono HL4.out.size))
      have HF := hide (show F.answers wr.tape by rw [HL.out.tape]; exact hF)
      by_cases hkl : k ≤ D.length
      · go_wp2_with fail
        refine (more_rd F _ D s _ HF.out HRs.out).mono ?_
        rintro e w7 ⟨rfl, hbel7, hrd7⟩
        have HL47 := hide (HLs.out.trans hbel7)
        have HR7 := hide hrd7
        clear hbel7 hrd7
        have HL7 := hide (HL4.out.trans (HL47.out.mono HL4.out.size))
        have HR07 := hide (HR4.out.later HL47.out (Nat.le_refl _))
        cases hm : (more D s).1 with
        | true =>
          clear hm
          go_wp2_with fail
          go_roundw
          case rel => exact ⟨k + 1, by omega, by go_num, _, HR7, HL47⟩
          case measure => simp [intOf]; omega
        | false =>
          clear hm
          go_wp2_with fail
          refine (zzAt_rd _ D _ i _ HR7.out).mono ?_
          rintro e w' ⟨rfl, hw⟩
          obtain rfl := hw.symm
          clear hw
          go_wp2_with fail
          refine (zzAt_rd _ D _ i _ HR07.out).mono ?_
          rintro e w' ⟨rfl, hw⟩
          obtain rfl := hw.symm
          clear hw
          go_wp2
          go_ret
          exact ⟨rfl, HL7.out⟩
      · have HR0r := hide (HR4.out.later HLs.out (Nat.le_refl _))
        go_wp2_with fail
        refine (zzAt_rd _ D _ i _ HRs.out).mono ?_
        rintro e w' ⟨rfl, hw⟩
        obtain rfl := hw.symm
        clear hw
        go_wp2_with fail
        refine (zzAt_rd _ D _ i _ HR0r.out).mono ?_
        rintro e w' ⟨rfl, hw⟩
        obtain rfl := hw.symm
        clear hw
        go_wp2
        go_ret
        exact ⟨rfl, HL.out⟩
  · have hq : (pk D (skip D 0) != 91) = true := by simp at h; simp [h]
    have hq2 : (pk D (skip D 0) != 123) = false := by simp at h; simp [h]
    clear h
    go_wp2_with fail
    go_loopw [9] (fun t wr => ∃ k : Nat, k ≤ D.length + 1 ∧ t = .int .i64 k ∧ ∃ s, Hid (Rd wr w4.heap.size D s) ∧ Hid (Below w4.heap.size w4 wr)) (fun t _ => D.length + 1 - (intOf t).toNat)
    case atStart => exact ⟨0, by omega, rfl, _, HR6, HL46⟩
    case round =>
      obtain ⟨k, hk, rfl, s, HRs, HLs⟩ := hrel
      have HL := hide (HL4.out.trans (HLs.out.mono HL4.out.size))
      have HF := hide (show F.answers wr.tape by rw [HL.out.tape]; exact hF)
      by_cases hkl : k ≤ D.length
      · go_wp2_with fail
        refine (more_rd F _ D s _ HF.out HRs.out).mono ?_
        rintro e w7 ⟨rfl, hbel7, hrd7⟩
        have HL47 := hide (HLs.out.trans hbel7)
        have HR7 := hide hrd7
        clear hbel7 hrd7
        have HL7 := hide (HL4.out.trans (HL47.out.mono HL4.out.size))
        have HR07 := hide (HR4.out.later HL47.out (Nat.le_refl _))
        cases hm : (more D s).1 with
        | true =>
          clear hm
          go_wp2_with fail
          go_roundw
          case rel => exact ⟨k + 1, by omega, by go_num, _, HR7, HL47⟩
          case measure => simp [intOf]; omega
        | false =>
          clear hm
          go_wp2_with fail
          refine (zzAt_rd _ D _ i _ HR7.out).mono ?_
          rintro e w' ⟨rfl, hw⟩
          obtain rfl := hw.symm
          clear hw
          go_wp2_with fail
          refine (zzAt_rd _ D _ i _ HR07.out).mono ?_
          rintro e w' ⟨rfl, hw⟩
          obtain rfl := hw.symm
          clear hw
          go_wp2
          go_ret
          exact ⟨rfl, HL7.out⟩
      · have HR0r := hide (HR4.out.later HLs.out (Nat.le_refl _))
        go_wp2_with fail
        refine (zzAt_rd _ D _ i _ HRs.out).mono ?_
        rintro e w' ⟨rfl, hw⟩
        obtain rfl := hw.symm
        clear hw
        go_wp2_with fail
        refine (zzAt_rd _ D _ i _ HR0r.out).mono ?_
        rintro e w' ⟨rfl, hw⟩
        obtain rfl := hw.symm
        clear hw
        go_wp2
        go_ret
        exact ⟨rfl, HL.out⟩

end Go.Proofs.Qxb6616904aFmt
