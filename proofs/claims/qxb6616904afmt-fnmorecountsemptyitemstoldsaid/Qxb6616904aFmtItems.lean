import Derived.Test.Qxb6616904aFmtB
import Derived.Test.Qxb6616904aFmtPlain3
namespace Go.Proofs.Qxb6616904aFmt
set_option linter.unusedVariables false
set_option linter.unusedSimpArgs false
open Go.RowKit Go.Extern.Stop Go.Stop Go.Extern

set_option maxRecDepth 100000 in
set_option maxHeartbeats 400000 in
theorem items_long (a : Option Addr) (c : Nat) (D : List Int) (w : World) (hlen : ¬ D.length ≤ 1048576) :
    Calls Tryf.prog 6 #[.slice a D.length c] w fun e w' => e = .returned (.bool true) ∧ Below w.heap.size w w' := by
  go_enter Tryf.func6, Tryf.ntmps6
  go_wp2_with (go_at_call 25; refine (zzBytes25_no _ _ _ _ hlen).mono ?_; rintro e w' ⟨rfl, rfl⟩)
  go_ret
  exact ⟨rfl, Below.refl _ _⟩

set_option maxRecDepth 100000 in
set_option maxHeartbeats 4000000 in
theorem items_end (F : Interp) (a : Option Addr) (c : Nat) (D : List Int) (p : Nat) (w : World) (hF : F.answers w.tape) (hlen : D.length ≤ 1048576) (hb : Hid (Bo w a D)) (hp : Hid (skip D 0 = p))
    (hent : Hid (enter D ⟨0, false, []⟩ = ⟨p, true, []⟩)) (hpl : ¬ p < D.length) :
    Calls Tryf.prog 6 #[.slice a D.length c] w fun e w' => e = .returned (.bool true) ∧ Below w.heap.size w w' := by
  go_enter Tryf.func6, Tryf.ntmps6
  go_wp2_with (go_at_call 25; refine (zzBytes25_yes _ _ _ _ hlen).mono ?_; rintro e w' ⟨rfl, hw⟩; obtain rfl := hw.symm; clear hw)
  refine (zzClone_any a c D _ hlen hb).mono ?_
  rintro e w1 ⟨a1, rfl, hb1, hbel1⟩
  have HB1 := hide hb1
  have HL1 := hide hbel1
  clear hb1 hbel1
  go_wp2_with fail
  refine (zzClone_any a1 _ D _ hlen (Bs.bo HB1.out)).mono ?_
  rintro e w2 ⟨a2, rfl, hb2, hbel2⟩
  have HB2 := hide hb2
  have HL2 := hide (below_step HL1.out hbel2 (Nat.le_refl _))
  have HB12 := hide (HB1.out.later hbel2 HB1.out.lo)
  clear hb2 hbel2
  go_wp2_with fail
  refine (newReader_rd a2 _ D _ hlen HB2.out).mono ?_
  rintro e w3 ⟨rfl, hbel3, hrd3⟩
  have HL23 := hide hbel3
  have HR3 := hide hrd3
  have HL3 := hide (below_step HL2.out hbel3 (Nat.le_refl _))
  have HB13 := hide (HB12.out.later hbel3 HB12.out.lo)
  clear hbel3 hrd3
  have HF3 := hide (show F.answers w3.tape by rw [HL3.out.tape]; exact hF)
  go_wp2_with fail
  refine (enter_rd F _ D _ _ HF3.out HR3.out rfl).mono ?_
  rintro e w4 ⟨rfl, hbel4, hrd4⟩
  rw [hent.out] at hrd4
  have HR4 := hide hrd4
  have HL24 := hide (HL23.out.trans hbel4)
  clear hbel4 hrd4
  have HL4 := hide (HL2.out.trans (HL24.out.mono HL2.out.size))
  have HF4 := hide (show F.answers w4.tape by rw [HL4.out.tape]; exact hF)
  have HB14 := hide (HB12.out.later HL24.out HB12.out.lo)
  go_wp2_with fail
  go_loop [4] (fun i => ∃ k : Nat, k ≤ D.length ∧ i = .int .i64 k ∧ Hid (skip D k = p)) (fun i => D.length - (intOf i).toNat)
  case atStart => exact ⟨0, Nat.zero_le _, rfl, hp⟩
  case round =>
    obtain ⟨k, hk, rfl, hs⟩ := hrel
    by_cases hlt : k < D.length
    · obtain ⟨db, rfl, hcl⟩ := HB14.out.cell hlt
      by_cases hsp : spB (pk D k) = true
      · have hst : Hid (skip D (k + 1) = p) := (skip_step hlt hsp).symm.trans hs.out
        go_wp2_with (first | (go_at_call 16; refine (zzIsSpace_any _ _).mono ?_; rintro e w' ⟨rfl, hw⟩; obtain rfl := hw.symm; clear hw) | fail)
        go_round
        case rel => exact ⟨k + 1, by omega, by go_num, hst⟩
        case measure => simp [intOf]; omega
      · have hst : k = p := (skip_stop (fun h => hsp h.2)).symm.trans hs.out
        have hsp' : spB (pk D k) = false := by simpa using hsp
        clear hsp
        exfalso; omega
    · have hst : k = p := (skip_stop (fun h => hlt h.1)).symm.trans hs.out
      obtain rfl := hst.symm
      clear hst
      go_wp2_with (first | (go_at_call 16; refine (zzIsSpace_any _ _).mono ?_; rintro e w' ⟨rfl, hw⟩; obtain rfl := hw.symm; clear hw) | fail)
      refine (offset_rd _ D _ _ HR4.out).mono ?_
      rintro e w' ⟨rfl, hw⟩
      obtain rfl := hw.symm
      clear hw
      go_wp2_with fail
      refine (more_rd F _ D _ _ HF4.out HR4.out).mono ?_
      rintro e w5 ⟨rfl, hbel5, hrd5⟩
      have hm : more D ⟨p, true, []⟩ = (false, ⟨p, true, []⟩) := rfl
      rw [hm] at hrd5
      have HR5 := hide hrd5
      have HL5 := hide (HL2.out.trans ((HL24.out.trans hbel5).mono HL2.out.size))
      clear hbel5 hrd5
      simp only [hm]
      clear hm
      go_wp2_with fail
      refine (offset_rd _ D _ _ HR5.out).mono ?_
      rintro e w' ⟨rfl, hw⟩
      obtain rfl := hw.symm
      clear hw
      go_wp2_with fail
      refine (zzErr_rd_some _ D _ _ HR5.out rfl).mono ?_
      rintro e w' ⟨v, rfl, hw⟩
      obtain rfl := hw.symm
      clear hw
      go_wp2_with fail
      refine (zzDepth_rd _ D _ _ HR5.out).mono ?_
      rintro e w' ⟨rfl, hw⟩
      obtain rfl := hw.symm
      clear hw
      go_wp2
      go_ret
      exact ⟨rfl, HL5.out⟩

set_option maxRecDepth 100000 in
set_option maxHeartbeats 4000000 in
theorem items_bad (F : Interp) (a : Option Addr) (c : Nat) (D : List Int) (p : Nat) (w : World) (hF : F.answers w.tape) (hlen : D.length ≤ 1048576) (hb : Hid (Bo w a D)) (hp : Hid (skip D 0 = p))
    (hent : Hid (enter D ⟨0, false, []⟩ = ⟨p, true, []⟩)) (hpl : p < D.length) (h1 : (pk D p != 91) = true) (h2 : (pk D p != 123) = true) :
    Calls Tryf.prog 6 #[.slice a D.length c] w fun e w' => e = .returned (.bool true) ∧ Below w.heap.size w w' := by
  go_enter Tryf.func6, Tryf.ntmps6
  go_wp2_with (go_at_call 25; refine (zzBytes25_yes _ _ _ _ hlen).mono ?_; rintro e w' ⟨rfl, hw⟩; obtain rfl := hw.symm; clear hw)
  refine (zzClone_any a c D _ hlen hb).mono ?_
  rintro e w1 ⟨a1, rfl, hb1, hbel1⟩
  have HB1 := hide hb1
  have HL1 := hide hbel1
  clear hb1 hbel1
  go_wp2_with fail
  refine (zzClone_any a1 _ D _ hlen (Bs.bo HB1.out)).mono ?_
  rintro e w2 ⟨a2, rfl, hb2, hbel2⟩
  have HB2 := hide hb2
  have HL2 := hide (below_step HL1.out hbel2 (Nat.le_refl _))
  have HB12 := hide (HB1.out.later hbel2 HB1.out.lo)
  clear hb2 hbel2
  go_wp2_with fail
  refine (newReader_rd a2 _ D _ hlen HB2.out).mono ?_
  rintro e w3 ⟨rfl, hbel3, hrd3⟩
  have HL23 := hide hbel3
  have HR3 := hide hrd3
  have HL3 := hide (below_step HL2.out hbel3 (Nat.le_refl _))
  have HB13 := hide (HB12.out.later hbel3 HB12.out.lo)
  clear hbel3 hrd3
  have HF3 := hide (show F.answers w3.tape by rw [HL3.out.tape]; exact hF)
  go_wp2_with fail
  refine (enter_rd F _ D _ _ HF3.out HR3.out rfl).mono ?_
  rintro e w4 ⟨rfl, hbel4, hrd4⟩
  rw [hent.out] at hrd4
  have HR4 := hide hrd4
  have HL24 := hide (HL23.out.trans hbel4)
  clear hbel4 hrd4
  have HL4 := hide (HL2.out.trans (HL24.out.mono HL2.out.size))
  have HF4 := hide (show F.answers w4.tape by rw [HL4.out.tape]; exact hF)
  have HB14 := hide (HB12.out.later HL24.out HB12.out.lo)
  go_wp2_with fail
  go_loop [4] (fun i => ∃ k : Nat, k ≤ D.length ∧ i = .int .i64 k ∧ Hid (skip D k = p)) (fun i => D.length - (intOf i).toNat)
  case atStart => exact ⟨0, Nat.zero_le _, rfl, hp⟩
  case round =>
    obtain ⟨k, hk, rfl, hs⟩ := hrel
    by_cases hlt : k < D.length
    · obtain ⟨db, rfl, hcl⟩ := HB14.out.cell hlt
      by_cases hsp : spB (pk D k) = true
      · have hst : Hid (skip D (k + 1) = p) := (skip_step hlt hsp).symm.trans hs.out
        go_wp2_with (first | (go_at_call 16; refine (zzIsSpace_any _ _).mono ?_; rintro e w' ⟨rfl, hw⟩; obtain rfl := hw.symm; clear hw) | fail)
        go_round
        case rel => exact ⟨k + 1, by omega, by go_num, hst⟩
        case measure => simp [intOf]; omega
      · have hst : k = p := (skip_stop (fun h => hsp h.2)).symm.trans hs.out
        have hsp' : spB (pk D k) = false := by simpa using hsp
        clear hsp
        obtain rfl := hst.symm
        clear hst
        go_wp2_with (first | (go_at_call 16; refine (zzIsSpace_any _ _).mono ?_; rintro e w' ⟨rfl, hw⟩; obtain rfl := hw.symm; clear hw) | fail)
        refine (offset_rd _ D _ _ HR4.out).mono ?_
        rintro e w' ⟨rfl, hw⟩
        obtain rfl := hw.symm
        clear hw
        go_wp2_with fail
        refine (more_rd F _ D _ _ HF4.out HR4.out).mono ?_
        rintro e w5 ⟨rfl, hbel5, hrd5⟩
        have hm : more D ⟨p, true, []⟩ = (false, ⟨p, true, []⟩) := rfl
        rw [hm] at hrd5
        have HR5 := hide hrd5
        have HL5 := hide (HL2.out.trans ((HL24.out.trans hbel5).mono HL2.out.size))
        clear hbel5 hrd5
        simp only [hm]
        clear hm
        go_wp2_with fail
        refine (offset_rd _ D _ _ HR5.out).mono ?_
        rintro e w' ⟨rfl, hw⟩
        obtain rfl := hw.symm
        clear hw
        go_wp2_with fail
        refine (zzErr_rd_some _ D _ _ HR5.out rfl).mono ?_
        rintro e w' ⟨v, rfl, hw⟩
        obtain rfl := hw.symm
        clear hw
        go_wp2_with fail
        refine (zzDepth_rd _ D _ _ HR5.out).mono ?_
        rintro e w' ⟨rfl, hw⟩
        obtain rfl := hw.symm
        clear hw
        go_wp2
        go_ret
        exact ⟨rfl, HL5.out⟩
    · have hst : k = p := (skip_stop (fun h => hlt h.1)).symm.trans hs.out
      exfalso; omega

end Go.Proofs.Qxb6616904aFmt
