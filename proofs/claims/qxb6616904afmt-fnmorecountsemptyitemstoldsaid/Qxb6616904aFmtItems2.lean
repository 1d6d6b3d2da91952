import Derived.Test.Qxb6616904aFmtItems
namespace Go.Proofs.Qxb6616904aFmt
set_option linter.unusedVariables false
set_option linter.unusedSimpArgs false
open Go.RowKit Go.Extern.Stop Go.Stop Go.Extern

set_option maxRecDepth 100000 in
set_option maxHeartbeats 8000000 in
theorem items_zero0 (F : Interp) (a : Option Addr) (c : Nat) (D : List Int) (p J C : Nat) (e : Int) (w : World) (hF : F.answers w.tape) (hlen : D.length ≤ 1048576) (hb : Hid (Bo w a D)) (hp : Hid (skip D 0 = p))
    (hent : Hid (enter D ⟨0, false, []⟩ = ⟨p + 1, false, [(e, false)]⟩)) (hcz : Hid (closer (pk D p) = e)) (he : Hid (e = 93 ∨ e = 125)) (hpl : p < D.length) (h91 : (pk D p != 91) = false)
    (hJ : Hid (cend D (p + 1) = J)) (hC : Hid (ccnt D (p + 1) = C)) (hJl : J ≤ D.length) (hCl : C ≤ D.length)
    (hj : J < D.length) (hjc : (pk D J == e) = true) (hc0 : ((C : Int) == 0) = true) :
    Calls Tryf.prog 6 #[.slice a D.length c] w fun e w' => e = .returned (.bool true) ∧ Below w.heap.size w w' := by
  have hfinE : Hid (fin D (p + 1) e = ⟨J + 1, false, []⟩) := by
    show fin D (p + 1) e = _
    unfold fin
    rw [hJ.out]
    rw [if_pos (by simpa using hjc)]
  have hwant : Hid (wantN D (p + 1) e = 0) := by
    show wantN D (p + 1) e = _
    unfold wantN
    rw [hJ.out, hC.out]
    rw [if_pos ⟨by simpa using hjc, by simpa using hc0⟩]
  go_enter Tryf.func6, Tryf.ntmps6
  go_wp2_with (go_at_call 25; refine (zzBytes25_yes _ _ _ _ hlen).mono ?_; rintro e w' ⟨rfl, hw⟩; obtain rfl := hw.symm; clear hw)
  refine (zzClone_any a c D _ hlen hb).mono ?_
  rintro e w1 ⟨a1, rfl, hb1, hbel1⟩
  have HB1 := hide hb1
  have HL1 := hide hbel1
  clear hb1 hbel1
  go_wp2_with fail
  refine (zzClone_any a1 _ D _ hlen (Bs.bo HB1.out)).mono ?_
  rintro e w2 ⟨a2, rfl, hb2, hbel2⟩
  have HB2 := hide hb2
  have HL2 := hide (below_step HL1.out hbel2 (Nat.le_refl _))
  have HB12 := hide (HB1.out.later hbel2 HB1.out.lo)
  clear hb2 hbel2
  go_wp2_with fail
  refine (newReader_rd a2 _ D _ hlen HB2.out).mono ?_
  rintro e w3 ⟨rfl, hbel3, hrd3⟩
  have HL23 := hide hbel3
  have HR3 := hide hrd3
  have HL3 := hide (below_step HL2.out hbel3 (Nat.le_refl _))
  have HB13 := hide (HB12.out.later hbel3 HB12.out.lo)
  clear hbel3 hrd3
  have HF3 := hide (show F.answers w3.tape by rw [HL3.out.tape]; exact hF)
  go_wp2_with fail
  refine (enter_rd F _ D _ _ HF3.out HR3.out rfl).mono ?_
  rintro e w4 ⟨rfl, hbel4, hrd4⟩
  rw [hent.out] at hrd4
  have HR4 := hide hrd4
  have HL24 := hide (HL23.out.trans hbel4)
  clear hbel4 hrd4
  have HL4 := hide (HL2.out.trans (HL24.out.mono HL2.out.size))
  have HF4 := hide (show F.answers w4.tape by rw [HL4.out.tape]; exact hF)
  have HB14 := hide (HB12.out.later HL24.out HB12.out.lo)
  go_wp2_with fail
  go_loop [4] (fun i => ∃ k : Nat, k ≤ D.length ∧ i = .int .i64 k ∧ Hid (skip D k = p)) (fun i => D.length - (intOf i).toNat)
  case atStart => exact ⟨0, Nat.zero_le _, rfl, hp⟩
  case round =>
    obtain ⟨k, hk, rfl, hs⟩ := hrel
    by_cases hlt : k < D.length
    · obtain ⟨db, rfl, hcl⟩ := HB14.out.cell hlt
      by_cases hsp : spB (pk D k) = true
      · have hst : Hid (skip D (k + 1) = p) := (skip_step hlt hsp).symm.trans hs.out
        go_wp2_with (first | (go_at_call 16; refine (zzIsSpace_any _ _).mono ?_; rintro e w' ⟨rfl, hw⟩; obtain rfl := hw.symm; clear hw) | fail)
        go_round
        case rel => exact ⟨k + 1, by omega, by go_num, hst⟩
        case measure => simp [intOf]; omega
      · have hst : k = p := (skip_stop (fun h => hsp h.2)).symm.trans hs.out
        have hsp' : spB (pk D k) = false := by simpa using hsp
        clear hsp
        obtain rfl := hst.symm
        clear hst
        have hd1 : decide ((D.length : Int) ≤ (p : Int)) = false := by simp; omega
        have hd2 : decide (D.length ≤ p) = false := by simp; omega
        have HB14c : Hid (∀ j, j < D.length → w4.cell? ⟨db, j, none⟩ = some (.int .u8 (pk D j))) := by
          intro j hj
          obtain ⟨db', h1, h2⟩ := HB14.out.cell hj
          cases h1
          exact h2
        go_wp2_with (first | (go_at_call 16; refine (zzIsSpace_any _ _).mono ?_; rintro e w' ⟨rfl, hw⟩; obtain rfl := hw.symm; clear hw) | fail)
        refine (zzCloser_any _ _).mono ?_
        rintro e' w' ⟨rfl, hw⟩
        obtain rfl := hw.symm
        clear hw
        simp only [hcz.out]
        go_wp2_with fail
        go_loop [7, 8] (fun j cm => ∃ k x : Nat, k ≤ D.length ∧ x ≤ D.length ∧ j = .int .i64 k ∧ cm = .int .i64 x ∧ Hid (cend D k = J) ∧ Hid (x + ccnt D k = C)) (fun j _ => D.length - (intOf j).toNat)
        case atStart => exact ⟨p + 1, 0, by omega, by omega, by go_num, rfl, hJ, by show 0 + _ = _; rw [Nat.zero_add]; exact hC.out⟩
        case round =>
          obtain ⟨k, x, hk, hx, rfl, rfl, hsJ, hsC⟩ := hrel
          by_cases hlt : k < D.length
          · have hcl' := HB14c.out k hlt
            by_cases h44 : pk D k = 44
            · have g1 : (pk D k == 44) = true := by simp [h44]
              have st1 : Hid (cend D (k + 1) = J) := (cend_step hlt (.inl h44)).symm.trans hsJ.out
              have st2 : Hid (x + 1 + ccnt D (k + 1) = C) := by have h := ccnt_step hlt (.inl h44); rw [if_pos h44] at h; have := hsC.out; show _ = _; omega
              have hx2 : x + 1 ≤ D.length := by have := st2.out; omega
              clear h44
              go_wp2_with (first | (go_at_call 16; refine (zzIsSpace_any _ _).mono ?_; rintro e w' ⟨rfl, hw⟩; obtain rfl := hw.symm; clear hw) | fail)
              go_round
              case rel => exact ⟨k + 1, x + 1, by omega, hx2, by go_num, by go_num, st1, st2⟩
              case measure => simp [intOf]; omega
            · have g1 : (pk D k == 44) = false := by simp [h44]
              by_cases hsp : spB (pk D k) = true
              · have st1 : Hid (cend D (k + 1) = J) := (cend_step hlt (.inr hsp)).symm.trans hsJ.out
                have st2 : Hid (x + ccnt D (k + 1) = C) := by have h := ccnt_step hlt (.inr hsp); rw [if_neg h44] at h; have := hsC.out; show _ = _; omega
                clear h44
                go_wp2_with (first | (go_at_call 16; refine (zzIsSpace_any _ _).mono ?_; rintro e w' ⟨rfl, hw⟩; obtain rfl := hw.symm; clear hw) | fail)
                go_round
                case rel => first | exact ⟨k + 1, x, by omega, hx, by go_num, rfl, st1, st2⟩ | (refine ⟨trivial, ?_⟩; (repeat apply Exists.intro); refine ⟨?_, rfl⟩; exact ⟨k + 1, x, by omega, hx, by go_num, rfl, st1, st2⟩)
                case measure => simp [intOf]; omega
              · have hns : ¬ (k < D.length ∧ (pk D k = 44 ∨ spB (pk D k) = true)) := fun h => h.2.elim h44 hsp
                have hkJ : k = J := (cend_stop hns).symm.trans hsJ.out
                have hcC : x = C := by have h1 := ccnt_stop hns; have := hsC.out; omega
                have hsp' : spB (pk D k) = false := by simpa using hsp
                clear hns hsp h44
                obtain rfl := hkJ.symm
                obtain rfl := hcC.symm
                clear hkJ hcC
                go_wp2_with (first | (go_at_call 16; refine (zzIsSpace_any _ _).mono ?_; rintro e w' ⟨rfl, hw⟩; obtain rfl := hw.symm; clear hw) | fail)
                go_loopw [13, 14] (fun cnt t wr => ∃ n s, n ≤ D.length ∧ cnt = .int .i64 (n : Nat) ∧ t = .int .i64 (n : Nat) ∧ Hid (Rd wr w2.heap.size D s) ∧ Hid (St D (p + 1) e s n) ∧ Hid (Below w2.heap.size w2 wr)) (fun _ t _ => D.length + 2 - (intOf t).toNat)
                case atStart => exact ⟨0, _, Nat.zero_le _, rfl, rfl, HR4, .inl ⟨rfl, rfl⟩, HL24⟩
                case round =>
                  obtain ⟨n, s, hn, rfl, rfl, HRs, HSs, HLs⟩ := hrel
                  have HLw := hide (HL2.out.trans (HLs.out.mono HL2.out.size))
                  have HFs := hide (show F.answers wr.tape by rw [HLw.out.tape]; exact hF)
                  go_wp2_with fail
                  refine (more_rd F _ D s _ HFs.out HRs.out).mono ?_
                  rintro e' w5 ⟨rfl, hbel5, hrd5⟩
                  have HL25 := hide (HLs.out.trans hbel5)
                  have HR5 := hide hrd5
                  clear hbel5 hrd5
                  rcases HSs.out.step he.out hpl with ⟨hm, hst⟩ | ⟨hm, hn2, hfin⟩
                  · have hle := hst.le (by omega) hpl
                    have HST := hide hst
                    clear hst
                    simp only [hm]
                    clear hm
                    go_wp2_with fail
                    go_roundw
                    case rel => exact ⟨n + 1, _, hle, by go_num, by go_num, HR5, HST, HL25⟩
                    case measure => simp [intOf]; omega
                  · simp only [hm]
                    clear hm
                    rw [hfin] at HR5
                    clear hfin
                    rw [hfinE.out] at HR5
                    rw [hwant.out] at hn2
                    subst hn2
                    have HL5 := hide (HL2.out.trans (HL25.out.mono HL2.out.size))
                    have HF5 := hide (show F.answers w5.tape by rw [HL5.out.tape]; exact hF)
                    go_wp2_with fail
                    refine (offset_rd _ D _ _ HR5.out).mono ?_
                    rintro e w' ⟨rfl, hw⟩
                    obtain rfl := hw.symm
                    clear hw
                    go_wp2_with fail
                    refine (more_rd F _ D _ _ HF5.out HR5.out).mono ?_
                    rintro e' w7 ⟨rfl, hbel7, hrd7⟩
                    have hm : more D ⟨J + 1, false, []⟩ = (false, ⟨J + 1, false, []⟩) := rfl
                    rw [hm] at hrd7
                    have HR7 := hide hrd7
                    have HL7 := hide (HL2.out.trans ((HL25.out.trans hbel7).mono HL2.out.size))
                    clear hbel7 hrd7
                    simp only [hm]
                    clear hm
                    go_wp2_with fail
                    refine (offset_rd _ D _ _ HR7.out).mono ?_
                    rintro e w' ⟨rfl, hw⟩
                    obtain rfl := hw.symm
                    clear hw
                    go_wp2_with fail
                    refine (zzErr_rd_nil _ D _ _ HR7.out rfl).mono ?_
                    rintro e w' ⟨rfl, hw⟩
                    obtain rfl := hw.symm
                    clear hw
                    go_wp2_with fail
                    refine (zzDepth_rd _ D _ _ HR7.out).mono ?_
                    rintro e w' ⟨rfl, hw⟩
                    obtain rfl := hw.symm
                    clear hw
                    go_wp2
                    go_ret
                    exact ⟨rfl, HL7.out⟩
          · have hns : ¬ (k < D.length ∧ (pk D k = 44 ∨ spB (pk D k) = true)) := fun h => hlt h.1
            have hkJ : k = J := (cend_stop hns).symm.trans hsJ.out
            have hcC : x = C := by have h1 := ccnt_stop hns; have := hsC.out; omega
            clear hns
            exfalso; omega
    · have hst : k = p := (skip_stop (fun h => hlt h.1)).symm.trans hs.out
      exfalso; omega

set_option maxRecDepth 100000 in
set_option maxHeartbeats 8000000 in
theorem items_zero1 (F : Interp) (a : Option Addr) (c : Nat) (D : List Int) (p J C : Nat) (e : Int) (w : World) (hF : F.answers w.tape) (hlen : D.length ≤ 1048576) (hb : Hid (Bo w a D)) (hp : Hid (skip D 0 = p))
    (hent : Hid (enter D ⟨0, false, []⟩ = ⟨p + 1, false, [(e, false)]⟩)) (hcz : Hid (closer (pk D p) = e)) (he : Hid (e = 93 ∨ e = 125)) (hpl : p < D.length) (h91 : (pk D p != 91) = true) (h123 : (pk D p != 123) = false)
    (hJ : Hid (cend D (p + 1) = J)) (hC : Hid (ccnt D (p + 1) = C)) (hJl : J ≤ D.length) (hCl : C ≤ D.length)
    (hj : J < D.length) (hjc : (pk D J == e) = true) (hc0 : ((C : Int) == 0) = true) :
    Calls Tryf.prog 6 #[.slice a D.length c] w fun e w' => e = .returned (.bool true) ∧ Below w.heap.size w w' := by
  have hfinE : Hid (fin D (p + 1) e = ⟨J + 1, false, []⟩) := by
    show fin D (p + 1) e = _
    unfold fin
    rw [hJ.out]
    rw [if_pos (by simpa using hjc)]
  have hwant : Hid (wantN D (p + 1) e = 0) := by
    show wantN D (p + 1) e = _
    unfold wantN
    rw [hJ.out, hC.out]
    rw [if_pos ⟨by simpa using hjc, by simpa using hc0⟩]
  go_enter Tryf.func6, Tryf.ntmps6
  go_wp2_with (go_at_call 25; refine (zzBytes25_yes _ _ _ _ hlen).mono ?_; rintro e w' ⟨rfl, hw⟩; obtain rfl := hw.symm; clear hw)
  refine (zzClone_any a c D _ hlen hb).mono ?_
  rintro e w1 ⟨a1, rfl, hb1, hbel1⟩
  have HB1 := hide hb1
  have HL1 := hide hbel1
  clear hb1 hbel1
  go_wp2_with fail
  refine (zzClone_any a1 _ D _ hlen (Bs.bo HB1.out)).mono ?_
  rintro e w2 ⟨a2, rfl, hb2, hbel2⟩
  have HB2 := hide hb2
  have HL2 := hide (below_step HL1.out hbel2 (Nat.le_refl _))
  have HB12 := hide (HB1.out.later hbel2 HB1.out.lo)
  clear hb2 hbel2
  go_wp2_with fail
  refine (newReader_rd a2 _ D _ hlen HB2.out).mono ?_
  rintro e w3 ⟨rfl, hbel3, hrd3⟩
  have HL23 := hide hbel3
  have HR3 := hide hrd3
  have HL3 := hide (below_step HL2.out hbel3 (Nat.le_refl _))
  have HB13 := hide (HB12.out.later hbel3 HB12.out.lo)
  clear hbel3 hrd3
  have HF3 := hide (show F.answers w3.tape by rw [HL3.out.tape]; exact hF)
  go_wp2_with fail
  refine (enter_rd F _ D _ _ HF3.out HR3.out rfl).mono ?_
  rintro e w4 ⟨rfl, hbel4, hrd4⟩
  rw [hent.out] at hrd4
  have HR4 := hide hrd4
  have HL24 := hide (HL23.out.trans hbel4)
  clear hbel4 hrd4
  have HL4 := hide (HL2.out.trans (HL24.out.mono HL2.out.size))
  have HF4 := hide (show F.answers w4.tape by rw [HL4.out.tape]; exact hF)
  have HB14 := hide (HB12.out.later HL24.out HB12.out.lo)
  go_wp2_with fail
  go_loop [4] (fun i => ∃ k : Nat, k ≤ D.length ∧ i = .int .i64 k ∧ Hid (skip D k = p)) (fun i => D.length - (intOf i).toNat)
  case atStart => exact ⟨0, Nat.zero_le _, rfl, hp⟩
  case round =>
    obtain ⟨k, hk, rfl, hs⟩ := hrel
    by_cases hlt : k < D.length
    · obtain ⟨db, rfl, hcl⟩ := HB14.out.cell hlt
      by_cases hsp : spB (pk D k) = true
      · have hst : Hid (skip D (k + 1) = p) := (skip_step hlt hsp).symm.trans hs.out
        go_wp2_with (first | (go_at_call 16; refine (zzIsSpace_any _ _).mono ?_; rintro e w' ⟨rfl, hw⟩; obtain rfl := hw.symm; clear hw) | fail)
        go_round
        case rel => exact ⟨k + 1, by omega, by go_num, hst⟩
        case measure => simp [intOf]; omega
      · have hst : k = p := (skip_stop (fun h => hsp h.2)).symm.trans hs.out
        have hsp' : spB (pk D k) = false := by simpa using hsp
        clear hsp
        obtain rfl := hst.symm
        clear hst
        have hd1 : decide ((D.length : Int) ≤ (p : Int)) = false := by simp; omega
        have hd2 : decide (D.length ≤ p) = false := by simp; omega
        have HB14c : Hid (∀ j, j < D.length → w4.cell? ⟨db, j, none⟩ = some (.int .u8 (pk D j))) := by
          intro j hj
          obtain ⟨db', h1, h2⟩ := HB14.out.cell hj
          cases h1
          exact h2
        go_wp2_with (first | (go_at_call 16; refine (zzIsSpace_any _ _).mono ?_; rintro e w' ⟨rfl, hw⟩; obtain rfl := hw.symm; clear hw) | fail)
        refine (zzCloser_any _ _).mono ?_
        rintro e' w' ⟨rfl, hw⟩
        obtain rfl := hw.symm
        clear hw
        simp only [hcz.out]
        go_wp2_with fail
        go_loop [7, 8] (fun j cm => ∃ k x : Nat, k ≤ D.length ∧ x ≤ D.length ∧ j = .int .i64 k ∧ cm = .int .i64 x ∧ Hid (cend D k = J) ∧ Hid (x + ccnt D k = C)) (fun j _ => D.length - (intOf j).toNat)
        case atStart => exact ⟨p + 1, 0, by omega, by omega, by go_num, rfl, hJ, by show 0 + _ = _; rw [Nat.zero_add]; exact hC.out⟩
        case round =>
          obtain ⟨k, x, hk, hx, rfl, rfl, hsJ, hsC⟩ := hrel
          by_cases hlt : k < D.length
          · have hcl' := HB14c.out k hlt
            by_cases h44 : pk D k = 44
            · have g1 : (pk D k == 44) = true := by simp [h44]
              have st1 : Hid (cend D (k + 1) = J) := (cend_step hlt (.inl h44)).symm.trans hsJ.out
              have st2 : Hid (x + 1 + ccnt D (k + 1) = C) := by have h := ccnt_step hlt (.inl h44); rw [if_pos h44] at h; have := hsC.out; show _ = _; omega
              have hx2 : x + 1 ≤ D.length := by have := st2.out; omega
              clear h44
              go_wp2_with (first | (go_at_call 16; refine (zzIsSpace_any _ _).mono ?_; rintro e w' ⟨rfl, hw⟩; obtain rfl := hw.symm; clear hw) | fail)
              go_round
              case rel => exact ⟨k + 1, x + 1, by omega, hx2, by go_num, by go_num, st1, st2⟩
              case measure => simp [intOf]; omega
            · have g1 : (pk D k == 44) = false := by simp [h44]
              by_cases hsp : spB (pk D k) = true
              · have st1 : Hid (cend D (k + 1) = J) := (cend_step hlt (.inr hsp)).symm.trans hsJ.out
                have st2 : Hid (x + ccnt D (k + 1) = C) := by have h := ccnt_step hlt (.inr hsp); rw [if_neg h44] at h; have := hsC.out; show _ = _; omega
                clear h44
                go_wp2_with (first | (go_at_call 16; refine (zzIsSpace_any _ _).mono ?_; rintro e w' ⟨rfl, hw⟩; obtain rfl := hw.symm; clear hw) | fail)
                go_round
                case rel => first | exact ⟨k + 1, x, by omega, hx, by go_num, rfl, st1, st2⟩ | (refine ⟨trivial, ?_⟩; (repeat apply Exists.intro); refine ⟨?_, rfl⟩; exact ⟨k + 1, x, by omega, hx, by go_num, rfl, st1, st2⟩)
                case measure => simp [intOf]; omega
              · have hns : ¬ (k < D.length ∧ (pk D k = 44 ∨ spB (pk D k) = true)) := fun h => h.2.elim h44 hsp
                have hkJ : k = J := (cend_stop hns).symm.trans hsJ.out
                have hcC : x = C := by have h1 := ccnt_stop hns; have := hsC.out; omega
                have hsp' : spB (pk D k) = false := by simpa using hsp
                clear hns hsp h44
                obtain rfl := hkJ.symm
                obtain rfl := hcC.symm
                clear hkJ hcC
                go_wp2_with (first | (go_at_call 16; refine (zzIsSpace_any _ _).mono ?_; rintro e w' ⟨rfl, hw⟩; obtain rfl := hw.symm; clear hw) | fail)
                go_loopw [13, 14] (fun cnt t wr => ∃ n s, n ≤ D.length ∧ cnt = .int .i64 (n : Nat) ∧ t = .int .i64 (n : Nat) ∧ Hid (Rd wr w2.heap.size D s) ∧ Hid (St D (p + 1) e s n) ∧ Hid (Below w2.heap.size w2 wr)) (fun _ t _ => D.length + 2 - (intOf t).toNat)
                case atStart => exact ⟨0, _, Nat.zero_le _, rfl, rfl, HR4, .inl ⟨rfl, rfl⟩, HL24⟩
                case round =>
                  obtain ⟨n, s, hn, rfl, rfl, HRs, HSs, HLs⟩ := hrel
                  have HLw := hide (HL2.out.trans (HLs.out.mono HL2.out.size))
                  have HFs := hide (show F.answers wr.tape by rw [HLw.out.tape]; exact hF)
                  go_wp2_with fail
                  refine (more_rd F _ D s _ HFs.out HRs.out).mono ?_
                  rintro e' w5 ⟨rfl, hbel5, hrd5⟩
                  have HL25 := hide (HLs.out.trans hbel5)
                  have HR5 := hide hrd5
                  clear hbel5 hrd5
                  rcases HSs.out.step he.out hpl with ⟨hm, hst⟩ | ⟨hm, hn2, hfin⟩
                  · have hle := hst.le (by omega) hpl
                    have HST := hide hst
                    clear hst
                    simp only [hm]
                    clear hm
                    go_wp2_with fail
                    go_roundw
                    case rel => exact ⟨n + 1, _, hle, by go_num, by go_num, HR5, HST, HL25⟩
                    case measure => simp [intOf]; omega
                  · simp only [hm]
                    clear hm
                    rw [hfin] at HR5
                    clear hfin
                    rw [hfinE.out] at HR5
                    rw [hwant.out] at hn2
                    subst hn2
                    have HL5 := hide (HL2.out.trans (HL25.out.mono HL2.out.size))
                    have HF5 := hide (show F.answers w5.tape by rw [HL5.out.tape]; exact hF)
                    go_wp2_with fail
                    refine (offset_rd _ D _ _ HR5.out).mono ?_
                    rintro e w' ⟨rfl, hw⟩
                    obtain rfl := hw.symm
                    clear hw
                    go_wp2_with fail
                    refine (more_rd F _ D _ _ HF5.out HR5.out).mono ?_
                    rintro e' w7 ⟨rfl, hbel7, hrd7⟩
                    have hm : more D ⟨J + 1, false, []⟩ = (false, ⟨J + 1, false, []⟩) := rfl
                    rw [hm] at hrd7
                    have HR7 := hide hrd7
                    have HL7 := hide (HL2.out.trans ((HL25.out.trans hbel7).mono HL2.out.size))
                    clear hbel7 hrd7
                    simp only [hm]
                    clear hm
                    go_wp2_with fail
                    refine (offset_rd _ D _ _ HR7.out).mono ?_
                    rintro e w' ⟨rfl, hw⟩
                    obtain rfl := hw.symm
                    clear hw
                    go_wp2_with fail
                    refine (zzErr_rd_nil _ D _ _ HR7.out rfl).mono ?_
                    rintro e w' ⟨rfl, hw⟩
                    obtain rfl := hw.symm
                    clear hw
                    go_wp2_with fail
                    refine (zzDepth_rd _ D _ _ HR7.out).mono ?_
                    rintro e w' ⟨rfl, hw⟩
                    obtain rfl := hw.symm
                    clear hw
                    go_wp2
                    go_ret
                    exact ⟨rfl, HL7.out⟩
          · have hns : ¬ (k < D.length ∧ (pk D k = 44 ∨ spB (pk D k) = true)) := fun h => hlt h.1
            have hkJ : k = J := (cend_stop hns).symm.trans hsJ.out
            have hcC : x = C := by have h1 := ccnt_stop hns; have := hsC.out; omega
            clear hns
            exfalso; omega
    · have hst : k = p := (skip_stop (fun h => hlt h.1)).symm.trans hs.out
      exfalso; omega

set_option maxRecDepth 100000 in
set_option maxHeartbeats 8000000 in
theorem items_some0 (F : Interp) (a : Option Addr) (c : Nat) (D : List Int) (p J C : Nat) (e : Int) (w : World) (hF : F.answers w.tape) (hlen : D.length ≤ 1048576) (hb : Hid (Bo w a D)) (hp : Hid (skip D 0 = p))
    (hent : Hid (enter D ⟨0, false, []⟩ = ⟨p + 1, false, [(e, false)]⟩)) (hcz : Hid (closer (pk D p) = e)) (he : Hid (e = 93 ∨ e = 125)) (hpl : p < D.length) (h91 : (pk D p != 91) = false)
    (hJ : Hid (cend D (p + 1) = J)) (hC : Hid (ccnt D (p + 1) = C)) (hJl : J ≤ D.length) (hCl : C ≤ D.length)
    (hj : J < D.length) (hjc : (pk D J == e) = true) (hc0 : ((C : Int) == 0) = false) :
    Calls Tryf.prog 6 #[.slice a D.length c] w fun e w' => e = .returned (.bool true) ∧ Below w.heap.size w w' := by
  have hfinE : Hid (fin D (p + 1) e = ⟨J + 1, false, []⟩) := by
    show fin D (p + 1) e = _
    unfold fin
    rw [hJ.out]
    rw [if_pos (by simpa using hjc)]
  have hwant : Hid (wantN D (p + 1) e = (C + 1)) := by
    show wantN D (p + 1) e = _
    unfold wantN
    rw [hJ.out, hC.out]
    rw [if_neg (fun h => by rw [h.2] at hc0; simp at hc0)]
  go_enter Tryf.func6, Tryf.ntmps6
  go_wp2_with (go_at_call 25; refine (zzBytes25_yes _ _ _ _ hlen).mono ?_; rintro e w' ⟨rfl, hw⟩; obtain rfl := hw.symm; clear hw)
  refine (zzClone_any a c D _ hlen hb).mono ?_
  rintro e w1 ⟨a1, rfl, hb1, hbel1⟩
  have HB1 := hide hb1
  have HL1 := hide hbel1
  clear hb1 hbel1
  go_wp2_with fail
  refine (zzClone_any a1 _ D _ hlen (Bs.bo HB1.out)).mono ?_
  rintro e w2 ⟨a2, rfl, hb2, hbel2⟩
  have HB2 := hide hb2
  have HL2 := hide (below_step HL1.out hbel2 (Nat.le_refl _))
  have HB12 := hide (HB1.out.later hbel2 HB1.out.lo)
  clear hb2 hbel2
  go_wp2_with fail
  refine (newReader_rd a2 _ D _ hlen HB2.out).mono ?_
  rintro e w3 ⟨rfl, hbel3, hrd3⟩
  have HL23 := hide hbel3
  have HR3 := hide hrd3
  have HL3 := hide (below_step HL2.out hbel3 (Nat.le_refl _))
  have HB13 := hide (HB12.out.later hbel3 HB12.out.lo)
  clear hbel3 hrd3
  have HF3 := hide (show F.answers w3.tape by rw [HL3.out.tape]; exact hF)
  go_wp2_with fail
  refine (enter_rd F _ D _ _ HF3.out HR3.out rfl).mono ?_
  rintro e w4 ⟨rfl, hbel4, hrd4⟩
  rw [hent.out] at hrd4
  have HR4 := hide hrd4
  have HL24 := hide (HL23.out.trans hbel4)
  clear hbel4 hrd4
  have HL4 := hide (HL2.out.trans (HL24.out.mono HL2.out.size))
  have HF4 := hide (show F.answers w4.tape by rw [HL4.out.tape]; exact hF)
  have HB14 := hide (HB12.out.later HL24.out HB12.out.lo)
  go_wp2_with fail
  go_loop [4] (fun i => ∃ k : Nat, k ≤ D.length ∧ i = .int .i64 k ∧ Hid (skip D k = p)) (fun i => D.length - (intOf i).toNat)
  case atStart => exact ⟨0, Nat.zero_le _, rfl, hp⟩
  case round =>
    obtain ⟨k, hk, rfl, hs⟩ := hrel
    by_cases hlt : k < D.length
    · obtain ⟨db, rfl, hcl⟩ := HB14.out.cell hlt
      by_cases hsp : spB (pk D k) = true
      · have hst : Hid (skip D (k + 1) = p) := (skip_step hlt hsp).symm.trans hs.out
        go_wp2_with (first | (go_at_call 16; refine (zzIsSpace_any _ _).mono ?_; rintro e w' ⟨rfl, hw⟩; obtain rfl := hw.symm; clear hw) | fail)
        go_round
        case rel => exact ⟨k + 1, by omega, by go_num, hst⟩
        case measure => simp [intOf]; omega
      · have hst : k = p := (skip_stop (fun h => hsp h.2)).symm.trans hs.out
        have hsp' : spB (pk D k) = false := by simpa using hsp
        clear hsp
        obtain rfl := hst.symm
        clear hst
        have hd1 : decide ((D.length : Int) ≤ (p : Int)) = false := by simp; omega
        have hd2 : decide (D.length ≤ p) = false := by simp; omega
        have HB14c : Hid (∀ j, j < D.length → w4.cell? ⟨db, j, none⟩ = some (.int .u8 (pk D j))) := by
          intro j hj
          obtain ⟨db', h1, h2⟩ := HB14.out.cell hj
          cases h1
          exact h2
        go_wp2_with (first | (go_at_call 16; refine (zzIsSpace_any _ _).mono ?_; rintro e w' ⟨rfl, hw⟩; obtain rfl := hw.symm; clear hw) | fail)
        refine (zzCloser_any _ _).mono ?_
        rintro e' w' ⟨rfl, hw⟩
        obtain rfl := hw.symm
        clear hw
        simp only [hcz.out]
        go_wp2_with fail
        go_loop [7, 8] (fun j cm => ∃ k x : Nat, k ≤ D.length ∧ x ≤ D.length ∧ j = .int .i64 k ∧ cm = .int .i64 x ∧ Hid (cend D k = J) ∧ Hid (x + ccnt D k = C)) (fun j _ => D.length - (intOf j).toNat)
        case atStart => exact ⟨p + 1, 0, by omega, by omega, by go_num, rfl, hJ, by show 0 + _ = _; rw [Nat.zero_add]; exact hC.out⟩
        case round =>
          obtain ⟨k, x, hk, hx, rfl, rfl, hsJ, hsC⟩ := hrel
          by_cases hlt : k < D.length
          · have hcl' := HB14c.out k hlt
            by_cases h44 : pk D k = 44
            · have g1 : (pk D k == 44) = true := by simp [h44]
              have st1 : Hid (cend D (k + 1) = J) := (cend_step hlt (.inl h44)).symm.trans hsJ.out
              have st2 : Hid (x + 1 + ccnt D (k + 1) = C) := by have h := ccnt_step hlt (.inl h44); rw [if_pos h44] at h; have := hsC.out; show _ = _; omega
              have hx2 : x + 1 ≤ D.length := by have := st2.out; omega
              clear h44
              go_wp2_with (first | (go_at_call 16; refine (zzIsSpace_any _ _).mono ?_; rintro e w' ⟨rfl, hw⟩; obtain rfl := hw.symm; clear hw) | fail)
              go_round
              case rel => exact ⟨k + 1, x + 1, by omega, hx2, by go_num, by go_num, st1, st2⟩
              case measure => simp [intOf]; omega
            · have g1 : (pk D k == 44) = false := by simp [h44]
              by_cases hsp : spB (pk D k) = true
              · have st1 : Hid (cend D (k + 1) = J) := (cend_step hlt (.inr hsp)).symm.trans hsJ.out
                have st2 : Hid (x + ccnt D (k + 1) = C) := by have h := ccnt_step hlt (.inr hsp); rw [if_neg h44] at h; have := hsC.out; show _ = _; omega
                clear h44
                go_wp2_with (first | (go_at_call 16; refine (zzIsSpace_any _ _).mono ?_; rintro e w' ⟨rfl, hw⟩; obtain rfl := hw.symm; clear hw) | fail)
                go_round
                case rel => first | exact ⟨k + 1, x, by omega, hx, by go_num, rfl, st1, st2⟩ | (refine ⟨trivial, ?_⟩; (repeat apply Exists.intro); refine ⟨?_, rfl⟩; exact ⟨k + 1, x, by omega, hx, by go_num, rfl, st1, st2⟩)
                case measure => simp [intOf]; omega
              · have hns : ¬ (k < D.length ∧ (pk D k = 44 ∨ spB (pk D k) = true)) := fun h => h.2.elim h44 hsp
                have hkJ : k = J := (cend_stop hns).symm.trans hsJ.out
                have hcC : x = C := by have h1 := ccnt_stop hns; have := hsC.out; omega
                have hsp' : spB (pk D k) = false := by simpa using hsp
                clear hns hsp h44
                obtain rfl := hkJ.symm
                obtain rfl := hcC.symm
                clear hkJ hcC
                go_wp2_with (first | (go_at_call 16; refine (zzIsSpace_any _ _).mono ?_; rintro e w' ⟨rfl, hw⟩; obtain rfl := hw.symm; clear hw) | fail)
                go_loopw [13, 14] (fun cnt t wr => ∃ n s, n ≤ D.length ∧ cnt = .int .i64 (n : Nat) ∧ t = .int .i64 (n : Nat) ∧ Hid (Rd wr w2.heap.size D s) ∧ Hid (St D (p + 1) e s n) ∧ Hid (Below w2.heap.size w2 wr)) (fun _ t _ => D.length + 2 - (intOf t).toNat)
                case atStart => exact ⟨0, _, Nat.zero_le _, rfl, rfl, HR4, .inl ⟨rfl, rfl⟩, HL24⟩
                case round =>
                  obtain ⟨n, s, hn, rfl, rfl, HRs, HSs, HLs⟩ := hrel
                  have HLw := hide (HL2.out.trans (HLs.out.mono HL2.out.size))
                  have HFs := hide (show F.answers wr.tape by rw [HLw.out.tape]; exact hF)
                  go_wp2_with fail
                  refine (more_rd F _ D s _ HFs.out HRs.out).mono ?_
                  rintro e' w5 ⟨rfl, hbel5, hrd5⟩
                  have HL25 := hide (HLs.out.trans hbel5)
                  have HR5 := hide hrd5
                  clear hbel5 hrd5
                  rcases HSs.out.step he.out hpl with ⟨hm, hst⟩ | ⟨hm, hn2, hfin⟩
                  · have hle := hst.le (by omega) hpl
                    have HST := hide hst
                    clear hst
                    simp only [hm]
                    clear hm
                    go_wp2_with fail
                    go_roundw
                    case rel => exact ⟨n + 1, _, hle, by go_num, by go_num, HR5, HST, HL25⟩
                    case measure => simp [intOf]; omega
                  · simp only [hm]
                    clear hm
                    rw [hfin] at HR5
                    clear hfin
                    rw [hfinE.out] at HR5
                    rw [hwant.out] at hn2
                    subst hn2
                    have HL5 := hide (HL2.out.trans (HL25.out.mono HL2.out.size))
                    have HF5 := hide (show F.answers w5.tape by rw [HL5.out.tape]; exact hF)
                    go_wp2_with fail
                    refine (offset_rd _ D _ _ HR5.out).mono ?_
                    rintro e w' ⟨rfl, hw⟩
                    obtain rfl := hw.symm
                    clear hw
                    go_wp2_with fail
                    refine (more_rd F _ D _ _ HF5.out HR5.out).mono ?_
                    rintro e' w7 ⟨rfl, hbel7, hrd7⟩
                    have hm : more D ⟨J + 1, false, []⟩ = (false, ⟨J + 1, false, []⟩) := rfl
                    rw [hm] at hrd7
                    have HR7 := hide hrd7
                    have HL7 := hide (HL2.out.trans ((HL25.out.trans hbel7).mono HL2.out.size))
                    clear hbel7 hrd7
                    simp only [hm]
                    clear hm
                    go_wp2_with fail
                    refine (offset_rd _ D _ _ HR7.out).mono ?_
                    rintro e w' ⟨rfl, hw⟩
                    obtain rfl := hw.symm
                    clear hw
                    go_wp2_with fail
                    refine (zzErr_rd_nil _ D _ _ HR7.out rfl).mono ?_
                    rintro e w' ⟨rfl, hw⟩
                    obtain rfl := hw.symm
                    clear hw
                    go_wp2_with fail
                    refine (zzDepth_rd _ D _ _ HR7.out).mono ?_
                    rintro e w' ⟨rfl, hw⟩
                    obtain rfl := hw.symm
                    clear hw
                    go_wp2
                    go_ret
                    exact ⟨rfl, HL7.out⟩
          · have hns : ¬ (k < D.length ∧ (pk D k = 44 ∨ spB (pk D k) = true)) := fun h => hlt h.1
            have hkJ : k = J := (cend_stop hns).symm.trans hsJ.out
            have hcC : x = C := by have h1 := ccnt_stop hns; have := hsC.out; omega
            clear hns
            exfalso; omega
    · have hst : k = p := (skip_stop (fun h => hlt h.1)).symm.trans hs.out
      exfalso; omega

set_option maxRecDepth 100000 in
set_option maxHeartbeats 8000000 in
theorem items_some1 (F : Interp) (a : Option Addr) (c : Nat) (D : List Int) (p J C : Nat) (e : Int) (w : World) (hF : F.answers w.tape) (hlen : D.length ≤ 1048576) (hb : Hid (Bo w a D)) (hp : Hid (skip D 0 = p))
    (hent : Hid (enter D ⟨0, false, []⟩ = ⟨p + 1, false, [(e, false)]⟩)) (hcz : Hid (closer (pk D p) = e)) (he : Hid (e = 93 ∨ e = 125)) (hpl : p < D.length) (h91 : (pk D p != 91) = true) (h123 : (pk D p != 123) = false)
    (hJ : Hid (cend D (p + 1) = J)) (hC : Hid (ccnt D (p + 1) = C)) (hJl : J ≤ D.length) (hCl : C ≤ D.length)
    (hj : J < D.length) (hjc : (pk D J == e) = true) (hc0 : ((C : Int) == 0) = false) :
    Calls Tryf.prog 6 #[.slice a D.length c] w fun e w' => e = .returned (.bool true) ∧ Below w.heap.size w w' := by
  have hfinE : Hid (fin D (p + 1) e = ⟨J + 1, false, []⟩) := by
    show fin D (p + 1) e = _
    unfold fin
    rw [hJ.out]
    rw [if_pos (by simpa using hjc)]
  have hwant : Hid (wantN D (p + 1) e = (C + 1)) := by
    show wantN D (p + 1) e = _
    unfold wantN
    rw [hJ.out, hC.out]
    rw [if_neg (fun h => by rw [h.2] at hc0; simp at hc0)]
  go_enter Tryf.func6, Tryf.ntmps6
  go_wp2_with (go_at_call 25; refine (zzBytes25_yes _ _ _ _ hlen).mono ?_; rintro e w' ⟨rfl, hw⟩; obtain rfl := hw.symm; clear hw)
  refine (zzClone_any a c D _ hlen hb).mono ?_
  rintro e w1 ⟨a1, rfl, hb1, hbel1⟩
  have HB1 := hide hb1
  have HL1 := hide hbel1
  clear hb1 hbel1
  go_wp2_with fail
  refine (zzClone_any a1 _ D _ hlen (Bs.bo HB1.out)).mono ?_
  rintro e w2 ⟨a2, rfl, hb2, hbel2⟩
  have HB2 := hide hb2
  have HL2 := hide (below_step HL1.out hbel2 (Nat.le_refl _))
  have HB12 := hide (HB1.out.later hbel2 HB1.out.lo)
  clear hb2 hbel2
  go_wp2_with fail
  refine (newReader_rd a2 _ D _ hlen HB2.out).mono ?_
  rintro e w3 ⟨rfl, hbel3, hrd3⟩
  have HL23 := hide hbel3
  have HR3 := hide hrd3
  have HL3 := hide (below_step HL2.out hbel3 (Nat.le_refl _))
  have HB13 := hide (HB12.out.later hbel3 HB12.out.lo)
  clear hbel3 hrd3
  have HF3 := hide (show F.answers w3.tape by rw [HL3.out.tape]; exact hF)
  go_wp2_with fail
  refine (enter_rd F _ D _ _ HF3.out HR3.out rfl).mono ?_
  rintro e w4 ⟨rfl, hbel4, hrd4⟩
  rw [hent.out] at hrd4
  have HR4 := hide hrd4
  have HL24 := hide (HL23.out.trans hbel4)
  clear hbel4 hrd4
  have HL4 := hide (HL2.out.trans (HL24.out.mono HL2.out.size))
  have HF4 := hide (show F.answers w4.tape by rw [HL4.out.tape]; exact hF)
  have HB14 := hide (HB12.out.later HL24.out HB12.out.lo)
  go_wp2_with fail
  go_loop [4] (fun i => ∃ k : Nat, k ≤ D.length ∧ i = .int .i64 k ∧ Hid (skip D k = p)) (fun i => D.length - (intOf i).toNat)
  case atStart => exact ⟨0, Nat.zero_le _, rfl, hp⟩
  case round =>
    obtain ⟨k, hk, rfl, hs⟩ := hrel
    by_cases hlt : k < D.length
    · obtain ⟨db, rfl, hcl⟩ := HB14.out.cell hlt
      by_cases hsp : spB (pk D k) = true
      · have hst : Hid (skip D (k + 1) = p) := (skip_step hlt hsp).symm.trans hs.out
        go_wp2_with (first | (go_at_call 16; refine (zzIsSpace_any _ _).mono ?_; rintro e w' ⟨rfl, hw⟩; obtain rfl := hw.symm; clear hw) | fail)
        go_round
        case rel => exact ⟨k + 1, by omega, by go_num, hst⟩
        case measure => simp [intOf]; omega
      · have hst : k = p := (skip_stop (fun h => hsp h.2)).symm.trans hs.out
        have hsp' : spB (pk D k) = false := by simpa using hsp
        clear hsp
        obtain rfl := hst.symm
        clear hst
        have hd1 : decide ((D.length : Int) ≤ (p : Int)) = false := by simp; omega
        have hd2 : decide (D.length ≤ p) = false := by simp; omega
        have HB14c : Hid (∀ j, j < D.length → w4.cell? ⟨db, j, none⟩ = some (.int .u8 (pk D j))) := by
          intro j hj
          obtain ⟨db', h1, h2⟩ := HB14.out.cell hj
          cases h1
          exact h2
        go_wp2_with (first | (go_at_call 16; refine (zzIsSpace_any _ _).mono ?_; rintro e w' ⟨rfl, hw⟩; obtain rfl := hw.symm; clear hw) | fail)
        refine (zzCloser_any _ _).mono ?_
        rintro e' w' ⟨rfl, hw⟩
        obtain rfl := hw.symm
        clear hw
        simp only [hcz.out]
        go_wp2_with fail
        go_loop [7, 8] (fun j cm => ∃ k x : Nat, k ≤ D.length ∧ x ≤ D.length ∧ j = .int .i64 k ∧ cm = .int .i64 x ∧ Hid (cend D k = J) ∧ Hid (x + ccnt D k = C)) (fun j _ => D.length - (intOf j).toNat)
        case atStart => exact ⟨p + 1, 0, by omega, by omega, by go_num, rfl, hJ, by show 0 + _ = _; rw [Nat.zero_add]; exact hC.out⟩
        case round =>
          obtain ⟨k, x, hk, hx, rfl, rfl, hsJ, hsC⟩ := hrel
          by_cases hlt : k < D.length
          · have hcl' := HB14c.out k hlt
            by_cases h44 : pk D k = 44
            · have g1 : (pk D k == 44) = true := by simp [h44]
              have st1 : Hid (cend D (k + 1) = J) := (cend_step hlt (.inl h44)).symm.trans hsJ.out
              have st2 : Hid (x + 1 + ccnt D (k + 1) = C) := by have h := ccnt_step hlt (.inl h44); rw [if_pos h44] at h; have := hsC.out; show _ = _; omega
              have hx2 : x + 1 ≤ D.length := by have := st2.out; omega
              clear h44
              go_wp2_with (first | (go_at_call 16; refine (zzIsSpace_any _ _).mono ?_; rintro e w' ⟨rfl, hw⟩; obtain rfl := hw.symm; clear hw) | fail)
              go_round
              case rel => exact ⟨k + 1, x + 1, by omega, hx2, by go_num, by go_num, st1, st2⟩
              case measure => simp [intOf]; omega
            · have g1 : (pk D k == 44) = false := by simp [h44]
              by_cases hsp : spB (pk D k) = true
              · have st1 : Hid (cend D (k + 1) = J) := (cend_step hlt (.inr hsp)).symm.trans hsJ.out
                have st2 : Hid (x + ccnt D (k + 1) = C) := by have h := ccnt_step hlt (.inr hsp); rw [if_neg h44] at h; have := hsC.out; show _ = _; omega
                clear h44
                go_wp2_with (first | (go_at_call 16; refine (zzIsSpace_any _ _).mono ?_; rintro e w' ⟨rfl, hw⟩; obtain rfl := hw.symm; clear hw) | fail)
                go_round
                case rel => first | exact ⟨k + 1, x, by omega, hx, by go_num, rfl, st1, st2⟩ | (refine ⟨trivial, ?_⟩; (repeat apply Exists.intro); refine ⟨?_, rfl⟩; exact ⟨k + 1, x, by omega, hx, by go_num, rfl, st1, st2⟩)
                case measure => simp [intOf]; omega
              · have hns : ¬ (k < D.length ∧ (pk D k = 44 ∨ spB (pk D k) = true)) := fun h => h.2.elim h44 hsp
                have hkJ : k = J := (cend_stop hns).symm.trans hsJ.out
                have hcC : x = C := by have h1 := ccnt_stop hns; have := hsC.out; omega
                have hsp' : spB (pk D k) = false := by simpa using hsp
                clear hns hsp h44
                obtain rfl := hkJ.symm
                obtain rfl := hcC.symm
                clear hkJ hcC
                go_wp2_with (first | (go_at_call 16; refine (zzIsSpace_any _ _).mono ?_; rintro e w' ⟨rfl, hw⟩; obtain rfl := hw.symm; clear hw) | fail)
                go_loopw [13, 14] (fun cnt t wr => ∃ n s, n ≤ D.length ∧ cnt = .int .i64 (n : Nat) ∧ t = .int .i64 (n : Nat) ∧ Hid (Rd wr w2.heap.size D s) ∧ Hid (St D (p + 1) e s n) ∧ Hid (Below w2.heap.size w2 wr)) (fun _ t _ => D.length + 2 - (intOf t).toNat)
                case atStart => exact ⟨0, _, Nat.zero_le _, rfl, rfl, HR4, .inl ⟨rfl, rfl⟩, HL24⟩
                case round =>
                  obtain ⟨n, s, hn, rfl, rfl, HRs, HSs, HLs⟩ := hrel
                  have HLw := hide (HL2.out.trans (HLs.out.mono HL2.out.size))
                  have HFs := hide (show F.answers wr.tape by rw [HLw.out.tape]; exact hF)
                  go_wp2_with fail
                  refine (more_rd F _ D s _ HFs.out HRs.out).mono ?_
                  rintro e' w5 ⟨rfl, hbel5, hrd5⟩
                  have HL25 := hide (HLs.out.trans hbel5)
                  have HR5 := hide hrd5
                  clear hbel5 hrd5
                  rcases HSs.out.step he.out hpl with ⟨hm, hst⟩ | ⟨hm, hn2, hfin⟩
                  · have hle := hst.le (by omega) hpl
                    have HST := hide hst
                    clear hst
                    simp only [hm]
                    clear hm
                    go_wp2_with fail
                    go_roundw
                    case rel => exact ⟨n + 1, _, hle, by go_num, by go_num, HR5, HST, HL25⟩
                    case measure => simp [intOf]; omega
                  · simp only [hm]
                    clear hm
                    rw [hfin] at HR5
                    clear hfin
                    rw [hfinE.out] at HR5
                    rw [hwant.out] at hn2
                    subst hn2
                    have HL5 := hide (HL2.out.trans (HL25.out.mono HL2.out.size))
                    have HF5 := hide (show F.answers w5.tape by rw [HL5.out.tape]; exact hF)
                    go_wp2_with fail
                    refine (offset_rd _ D _ _ HR5.out).mono ?_
                    rintro e w' ⟨rfl, hw⟩
                    obtain rfl := hw.symm
                    clear hw
                    go_wp2_with fail
                    refine (more_rd F _ D _ _ HF5.out HR5.out).mono ?_
                    rintro e' w7 ⟨rfl, hbel7, hrd7⟩
                    have hm : more D ⟨J + 1, false, []⟩ = (false, ⟨J + 1, false, []⟩) := rfl
                    rw [hm] at hrd7
                    have HR7 := hide hrd7
                    have HL7 := hide (HL2.out.trans ((HL25.out.trans hbel7).mono HL2.out.size))
                    clear hbel7 hrd7
                    simp only [hm]
                    clear hm
                    go_wp2_with fail
                    refine (offset_rd _ D _ _ HR7.out).mono ?_
                    rintro e w' ⟨rfl, hw⟩
                    obtain rfl := hw.symm
                    clear hw
                    go_wp2_with fail
                    refine (zzErr_rd_nil _ D _ _ HR7.out rfl).mono ?_
                    rintro e w' ⟨rfl, hw⟩
                    obtain rfl := hw.symm
                    clear hw
                    go_wp2_with fail
                    refine (zzDepth_rd _ D _ _ HR7.out).mono ?_
                    rintro e w' ⟨rfl, hw⟩
                    obtain rfl := hw.symm
                    clear hw
                    go_wp2
                    go_ret
                    exact ⟨rfl, HL7.out⟩
          · have hns : ¬ (k < D.length ∧ (pk D k = 44 ∨ spB (pk D k) = true)) := fun h => hlt h.1
            have hkJ : k = J := (cend_stop hns).symm.trans hsJ.out
            have hcC : x = C := by have h1 := ccnt_stop hns; have := hsC.out; omega
            clear hns
            exfalso; omega
    · have hst : k = p := (skip_stop (fun h => hlt h.1)).symm.trans hs.out
      exfalso; omega

set_option maxRecDepth 100000 in
set_option maxHeartbeats 8000000 in
theorem items_not0 (F : Interp) (a : Option Addr) (c : Nat) (D : List Int) (p J C : Nat) (e : Int) (w : World) (hF : F.answers w.tape) (hlen : D.length ≤ 1048576) (hb : Hid (Bo w a D)) (hp : Hid (skip D 0 = p))
    (hent : Hid (enter D ⟨0, false, []⟩ = ⟨p + 1, false, [(e, false)]⟩)) (hcz : Hid (closer (pk D p) = e)) (he : Hid (e = 93 ∨ e = 125)) (hpl : p < D.length) (h91 : (pk D p != 91) = false)
    (hJ : Hid (cend D (p + 1) = J)) (hC : Hid (ccnt D (p + 1) = C)) (hJl : J ≤ D.length) (hCl : C ≤ D.length)
    (hj : J < D.length) (hjc : (pk D J == e) = false) :
    Calls Tryf.prog 6 #[.slice a D.length c] w fun e w' => e = .returned (.bool true) ∧ Below w.heap.size w w' := by
  have hfinE : Hid (fin D (p + 1) e = ⟨J, true, [(e, true)]⟩) := by
    show fin D (p + 1) e = _
    unfold fin
    rw [hJ.out]
    rw [if_neg (by simpa using hjc)]
  have hwant : Hid (wantN D (p + 1) e = (C + 1)) := by
    show wantN D (p + 1) e = _
    unfold wantN
    rw [hJ.out, hC.out]
    rw [if_neg (fun h => by rw [h.1] at hjc; simp at hjc)]
  go_enter Tryf.func6, Tryf.ntmps6
  go_wp2_with (go_at_call 25; refine (zzBytes25_yes _ _ _ _ hlen).mono ?_; rintro e w' ⟨rfl, hw⟩; obtain rfl := hw.symm; clear hw)
  refine (zzClone_any a c D _ hlen hb).mono ?_
  rintro e w1 ⟨a1, rfl, hb1, hbel1⟩
  have HB1 := hide hb1
  have HL1 := hide hbel1
  clear hb1 hbel1
  go_wp2_with fail
  refine (zzClone_any a1 _ D _ hlen (Bs.bo HB1.out)).mono ?_
  rintro e w2 ⟨a2, rfl, hb2, hbel2⟩
  have HB2 := hide hb2
  have HL2 := hide (below_step HL1.out hbel2 (Nat.le_refl _))
  have HB12 := hide (HB1.out.later hbel2 HB1.out.lo)
  clear hb2 hbel2
  go_wp2_with fail
  refine (newReader_rd a2 _ D _ hlen HB2.out).mono ?_
  rintro e w3 ⟨rfl, hbel3, hrd3⟩
  have HL23 := hide hbel3
  have HR3 := hide hrd3
  have HL3 := hide (below_step HL2.out hbel3 (Nat.le_refl _))
  have HB13 := hide (HB12.out.later hbel3 HB12.out.lo)
  clear hbel3 hrd3
  have HF3 := hide (show F.answers w3.tape by rw [HL3.out.tape]; exact hF)
  go_wp2_with fail
  refine (enter_rd F _ D _ _ HF3.out HR3.out rfl).mono ?_
  rintro e w4 ⟨rfl, hbel4, hrd4⟩
  rw [hent.out] at hrd4
  have HR4 := hide hrd4
  have HL24 := hide (HL23.out.trans hbel4)
  clear hbel4 hrd4
  have HL4 := hide (HL2.out.trans (HL24.out.mono HL2.out.size))
  have HF4 := hide (show F.answers w4.tape by rw [HL4.out.tape]; exact hF)
  have HB14 := hide (HB12.out.later HL24.out HB12.out.lo)
  go_wp2_with fail
  go_loop [4] (fun i => ∃ k : Nat, k ≤ D.length ∧ i = .int .i64 k ∧ Hid (skip D k = p)) (fun i => D.length - (intOf i).toNat)
  case atStart => exact ⟨0, Nat.zero_le _, rfl, hp⟩
  case round =>
    obtain ⟨k, hk, rfl, hs⟩ := hrel
    by_cases hlt : k < D.length
    · obtain ⟨db, rfl, hcl⟩ := HB14.out.cell hlt
      by_cases hsp : spB (pk D k) = true
      · have hst : Hid (skip D (k + 1) = p) := (skip_step hlt hsp).symm.trans hs.out
        go_wp2_with (first | (go_at_call 16; refine (zzIsSpace_any _ _).mono ?_; rintro e w' ⟨rfl, hw⟩; obtain rfl := hw.symm; clear hw) | fail)
        go_round
        case rel => exact ⟨k + 1, by omega, by go_num, hst⟩
        case measure => simp [intOf]; omega
      · have hst : k = p := (skip_stop (fun h => hsp h.2)).symm.trans hs.out
        have hsp' : spB (pk D k) = false := by simpa using hsp
        clear hsp
        obtain rfl := hst.symm
        clear hst
        have hd1 : decide ((D.length : Int) ≤ (p : Int)) = false := by simp; omega
        have hd2 : decide (D.length ≤ p) = false := by simp; omega
        have HB14c : Hid (∀ j, j < D.length → w4.cell? ⟨db, j, none⟩ = some (.int .u8 (pk D j))) := by
          intro j hj
          obtain ⟨db', h1, h2⟩ := HB14.out.cell hj
          cases h1
          exact h2
        go_wp2_with (first | (go_at_call 16; refine (zzIsSpace_any _ _).mono ?_; rintro e w' ⟨rfl, hw⟩; obtain rfl := hw.symm; clear hw) | fail)
        refine (zzCloser_any _ _).mono ?_
        rintro e' w' ⟨rfl, hw⟩
        obtain rfl := hw.symm
        clear hw
        simp only [hcz.out]
        go_wp2_with fail
        go_loop [7, 8] (fun j cm => ∃ k x : Nat, k ≤ D.length ∧ x ≤ D.length ∧ j = .int .i64 k ∧ cm = .int .i64 x ∧ Hid (cend D k = J) ∧ Hid (x + ccnt D k = C)) (fun j _ => D.length - (intOf j).toNat)
        case atStart => exact ⟨p + 1, 0, by omega, by omega, by go_num, rfl, hJ, by show 0 + _ = _; rw [Nat.zero_add]; exact hC.out⟩
        case round =>
          obtain ⟨k, x, hk, hx, rfl, rfl, hsJ, hsC⟩ := hrel
          by_cases hlt : k < D.length
          · have hcl' := HB14c.out k hlt
            by_cases h44 : pk D k = 44
            · have g1 : (pk D k == 44) = true := by simp [h44]
              have st1 : Hid (cend D (k + 1) = J) := (cend_step hlt (.inl h44)).symm.trans hsJ.out
              have st2 : Hid (x + 1 + ccnt D (k + 1) = C) := by have h := ccnt_step hlt (.inl h44); rw [if_pos h44] at h; have := hsC.out; show _ = _; omega
              have hx2 : x + 1 ≤ D.length := by have := st2.out; omega
              clear h44
              go_wp2_with (first | (go_at_call 16; refine (zzIsSpace_any _ _).mono ?_; rintro e w' ⟨rfl, hw⟩; obtain rfl := hw.symm; clear hw) | fail)
              go_round
              case rel => exact ⟨k + 1, x + 1, by omega, hx2, by go_num, by go_num, st1, st2⟩
              case measure => simp [intOf]; omega
            · have g1 : (pk D k == 44) = false := by simp [h44]
              by_cases hsp : spB (pk D k) = true
              · have st1 : Hid (cend D (k + 1) = J) := (cend_step hlt (.inr hsp)).symm.trans hsJ.out
                have st2 : Hid (x + ccnt D (k + 1) = C) := by have h := ccnt_step hlt (.inr hsp); rw [if_neg h44] at h; have := hsC.out; show _ = _; omega
                clear h44
                go_wp2_with (first | (go_at_call 16; refine (zzIsSpace_any _ _).mono ?_; rintro e w' ⟨rfl, hw⟩; obtain rfl := hw.symm; clear hw) | fail)
                go_round
                case rel => first | exact ⟨k + 1, x, by omega, hx, by go_num, rfl, st1, st2⟩ | (refine ⟨trivial, ?_⟩; (repeat apply Exists.intro); refine ⟨?_, rfl⟩; exact ⟨k + 1, x, by omega, hx, by go_num, rfl, st1, st2⟩)
                case measure => simp [intOf]; omega
              · have hns : ¬ (k < D.length ∧ (pk D k = 44 ∨ spB (pk D k) = true)) := fun h => h.2.elim h44 hsp
                have hkJ : k = J := (cend_stop hns).symm.trans hsJ.out
                have hcC : x = C := by have h1 := ccnt_stop hns; have := hsC.out; omega
                have hsp' : spB (pk D k) = false := by simpa using hsp
                clear hns hsp h44
                obtain rfl := hkJ.symm
                obtain rfl := hcC.symm
                clear hkJ hcC
                go_wp2_with (first | (go_at_call 16; refine (zzIsSpace_any _ _).mono ?_; rintro e w' ⟨rfl, hw⟩; obtain rfl := hw.symm; clear hw) | fail)
                go_loopw [13, 14] (fun cnt t wr => ∃ n s, n ≤ D.length ∧ cnt = .int .i64 (n : Nat) ∧ t = .int .i64 (n : Nat) ∧ Hid (Rd wr w2.heap.size D s) ∧ Hid (St D (p + 1) e s n) ∧ Hid (Below w2.heap.size w2 wr)) (fun _ t _ => D.length + 2 - (intOf t).toNat)
                case atStart => exact ⟨0, _, Nat.zero_le _, rfl, rfl, HR4, .inl ⟨rfl, rfl⟩, HL24⟩
                case round =>
                  obtain ⟨n, s, hn, rfl, rfl, HRs, HSs, HLs⟩ := hrel
                  have HLw := hide (HL2.out.trans (HLs.out.mono HL2.out.size))
                  have HFs := hide (show F.answers wr.tape by rw [HLw.out.tape]; exact hF)
                  go_wp2_with fail
                  refine (more_rd F _ D s _ HFs.out HRs.out).mono ?_
                  rintro e' w5 ⟨rfl, hbel5, hrd5⟩
                  have HL25 := hide (HLs.out.trans hbel5)
                  have HR5 := hide hrd5
                  clear hbel5 hrd5
                  rcases HSs.out.step he.out hpl with ⟨hm, hst⟩ | ⟨hm, hn2, hfin⟩
                  · have hle := hst.le (by omega) hpl
                    have HST := hide hst
                    clear hst
                    simp only [hm]
                    clear hm
                    go_wp2_with fail
                    go_roundw
                    case rel => exact ⟨n + 1, _, hle, by go_num, by go_num, HR5, HST, HL25⟩
                    case measure => simp [intOf]; omega
                  · simp only [hm]
                    clear hm
                    rw [hfin] at HR5
                    clear hfin
                    rw [hfinE.out] at HR5
                    rw [hwant.out] at hn2
                    subst hn2
                    have HL5 := hide (HL2.out.trans (HL25.out.mono HL2.out.size))
                    have HF5 := hide (show F.answers w5.tape by rw [HL5.out.tape]; exact hF)
                    go_wp2_with fail
                    refine (offset_rd _ D _ _ HR5.out).mono ?_
                    rintro e w' ⟨rfl, hw⟩
                    obtain rfl := hw.symm
                    clear hw
                    go_wp2_with fail
                    refine (more_rd F _ D _ _ HF5.out HR5.out).mono ?_
                    rintro e' w7 ⟨rfl, hbel7, hrd7⟩
                    have hm : more D ⟨J, true, [(e, true)]⟩ = (false, ⟨J, true, [(e, true)]⟩) := rfl
                    rw [hm] at hrd7
                    have HR7 := hide hrd7
                    have HL7 := hide (HL2.out.trans ((HL25.out.trans hbel7).mono HL2.out.size))
                    clear hbel7 hrd7
                    simp only [hm]
                    clear hm
                    go_wp2_with fail
                    refine (offset_rd _ D _ _ HR7.out).mono ?_
                    rintro e w' ⟨rfl, hw⟩
                    obtain rfl := hw.symm
                    clear hw
                    go_wp2_with fail
                    refine (zzErr_rd_some _ D _ _ HR7.out rfl).mono ?_
                    rintro e w' ⟨v, rfl, hw⟩
                    obtain rfl := hw.symm
                    clear hw
                    go_wp2_with fail
                    refine (zzDepth_rd _ D _ _ HR7.out).mono ?_
                    rintro e w' ⟨rfl, hw⟩
                    obtain rfl := hw.symm
                    clear hw
                    go_wp2
                    go_ret
                    exact ⟨rfl, HL7.out⟩
          · have hns : ¬ (k < D.length ∧ (pk D k = 44 ∨ spB (pk D k) = true)) := fun h => hlt h.1
            have hkJ : k = J := (cend_stop hns).symm.trans hsJ.out
            have hcC : x = C := by have h1 := ccnt_stop hns; have := hsC.out; omega
            clear hns
            exfalso; omega
    · have hst : k = p := (skip_stop (fun h => hlt h.1)).symm.trans hs.out
      exfalso; omega

set_option maxRecDepth 100000 in
set_option maxHeartbeats 8000000 in
theorem items_not1 (F : Interp) (a : Option Addr) (c : Nat) (D : List Int) (p J C : Nat) (e : Int) (w : World) (hF : F.answers w.tape) (hlen : D.length ≤ 1048576) (hb : Hid (Bo w a D)) (hp : Hid (skip D 0 = p))
    (hent : Hid (enter D ⟨0, false, []⟩ = ⟨p + 1, false, [(e, false)]⟩)) (hcz : Hid (closer (pk D p) = e)) (he : Hid (e = 93 ∨ e = 125)) (hpl : p < D.length) (h91 : (pk D p != 91) = true) (h123 : (pk D p != 123) = false)
    (hJ : Hid (cend D (p + 1) = J)) (hC : Hid (ccnt D (p + 1) = C)) (hJl : J ≤ D.length) (hCl : C ≤ D.length)
    (hj : J < D.length) (hjc : (pk D J == e) = false) :
    Calls Tryf.prog 6 #[.slice a D.length c] w fun e w' => e = .returned (.bool true) ∧ Below w.heap.size w w' := by
  have hfinE : Hid (fin D (p + 1) e = ⟨J, true, [(e, true)]⟩) := by
    show fin D (p + 1) e = _
    unfold fin
    rw [hJ.out]
    rw [if_neg (by simpa using hjc)]
  have hwant : Hid (wantN D (p + 1) e = (C + 1)) := by
    show wantN D (p + 1) e = _
    unfold wantN
    rw [hJ.out, hC.out]
    rw [if_neg (fun h => by rw [h.1] at hjc; simp at hjc)]
  go_enter Tryf.func6, Tryf.ntmps6
  go_wp2_with (go_at_call 25; refine (zzBytes25_yes _ _ _ _ hlen).mono ?_; rintro e w' ⟨rfl, hw⟩; obtain rfl := hw.symm; clear hw)
  refine (zzClone_any a c D _ hlen hb).mono ?_
  rintro e w1 ⟨a1, rfl, hb1, hbel1⟩
  have HB1 := hide hb1
  have HL1 := hide hbel1
  clear hb1 hbel1
  go_wp2_with fail
  refine (zzClone_any a1 _ D _ hlen (Bs.bo HB1.out)).mono ?_
  rintro e w2 ⟨a2, rfl, hb2, hbel2⟩
  have HB2 := hide hb2
  have HL2 := hide (below_step HL1.out hbel2 (Nat.le_refl _))
  have HB12 := hide (HB1.out.later hbel2 HB1.out.lo)
  clear hb2 hbel2
  go_wp2_with fail
  refine (newReader_rd a2 _ D _ hlen HB2.out).mono ?_
  rintro e w3 ⟨rfl, hbel3, hrd3⟩
  have HL23 := hide hbel3
  have HR3 := hide hrd3
  have HL3 := hide (below_step HL2.out hbel3 (Nat.le_refl _))
  have HB13 := hide (HB12.out.later hbel3 HB12.out.lo)
  clear hbel3 hrd3
  have HF3 := hide (show F.answers w3.tape by rw [HL3.out.tape]; exact hF)
  go_wp2_with fail
  refine (enter_rd F _ D _ _ HF3.out HR3.out rfl).mono ?_
  rintro e w4 ⟨rfl, hbel4, hrd4⟩
  rw [hent.out] at hrd4
  have HR4 := hide hrd4
  have HL24 := hide (HL23.out.trans hbel4)
  clear hbel4 hrd4
  have HL4 := hide (HL2.out.trans (HL24.out.mono HL2.out.size))
  have HF4 := hide (show F.answers w4.tape by rw [HL4.out.tape]; exact hF)
  have HB14 := hide (HB12.out.later HL24.out HB12.out.lo)
  go_wp2_with fail
  go_loop [4] (fun i => ∃ k : Nat, k ≤ D.length ∧ i = .int .i64 k ∧ Hid (skip D k = p)) (fun i => D.length - (intOf i).toNat)
  case atStart => exact ⟨0, Nat.zero_le _, rfl, hp⟩
  case round =>
    obtain ⟨k, hk, rfl, hs⟩ := hrel
    by_cases hlt : k < D.length
    · obtain ⟨db, rfl, hcl⟩ := HB14.out.cell hlt
      by_cases hsp : spB (pk D k) = true
      · have hst : Hid (skip D (k + 1) = p) := (skip_step hlt hsp).symm.trans hs.out
        go_wp2_with (first | (go_at_call 16; refine (zzIsSpace_any _ _).mono ?_; rintro e w' ⟨rfl, hw⟩; obtain rfl := hw.symm; clear hw) | fail)
        go_round
        case rel => exact ⟨k + 1, by omega, by go_num, hst⟩
        case measure => simp [intOf]; omega
      · have hst : k = p := (skip_stop (fun h => hsp h.2)).symm.trans hs.out
        have hsp' : spB (pk D k) = false := by simpa using hsp
        clear hsp
        obtain rfl := hst.symm
        clear hst
        have hd1 : decide ((D.length : Int) ≤ (p : Int)) = false := by simp; omega
        have hd2 : decide (D.length ≤ p) = false := by simp; omega
        have HB14c : Hid (∀ j, j < D.length → w4.cell? ⟨db, j, none⟩ = some (.int .u8 (pk D j))) := by
          intro j hj
          obtain ⟨db', h1, h2⟩ := HB14.out.cell hj
          cases h1
          exact h2
        go_wp2_with (first | (go_at_call 16; refine (zzIsSpace_any _ _).mono ?_; rintro e w' ⟨rfl, hw⟩; obtain rfl := hw.symm; clear hw) | fail)
        refine (zzCloser_any _ _).mono ?_
        rintro e' w' ⟨rfl, hw⟩
        obtain rfl := hw.symm
        clear hw
        simp only [hcz.out]
        go_wp2_with fail
        go_loop [7, 8] (fun j cm => ∃ k x : Nat, k ≤ D.length ∧ x ≤ D.length ∧ j = .int .i64 k ∧ cm = .int .i64 x ∧ Hid (cend D k = J) ∧ Hid (x + ccnt D k = C)) (fun j _ => D.length - (intOf j).toNat)
        case atStart => exact ⟨p + 1, 0, by omega, by omega, by go_num, rfl, hJ, by show 0 + _ = _; rw [Nat.zero_add]; exact hC.out⟩
        case round =>
          obtain ⟨k, x, hk, hx, rfl, rfl, hsJ, hsC⟩ := hrel
          by_cases hlt : k < D.length
          · have hcl' := HB14c.out k hlt
            by_cases h44 : pk D k = 44
            · have g1 : (pk D k == 44) = true := by simp [h44]
              have st1 : Hid (cend D (k + 1) = J) := (cend_step hlt (.inl h44)).symm.trans hsJ.out
              have st2 : Hid (x + 1 + ccnt D (k + 1) = C) := by have h := ccnt_step hlt (.inl h44); rw [if_pos h44] at h; have := hsC.out; show _ = _; omega
              have hx2 : x + 1 ≤ D.length := by have := st2.out; omega
              clear h44
              go_wp2_with (first | (go_at_call 16; refine (zzIsSpace_any _ _).mono ?_; rintro e w' ⟨rfl, hw⟩; obtain rfl := hw.symm; clear hw) | fail)
              go_round
              case rel => exact ⟨k + 1, x + 1, by omega, hx2, by go_num, by go_num, st1, st2⟩
              case measure => simp [intOf]; omega
            · have g1 : (pk D k == 44) = false := by simp [h44]
              by_cases hsp : spB (pk D k) = true
              · have st1 : Hid (cend D (k + 1) = J) := (cend_step hlt (.inr hsp)).symm.trans hsJ.out
                have st2 : Hid (x + ccnt D (k + 1) = C) := by have h := ccnt_step hlt (.inr hsp); rw [if_neg h44] at h; have := hsC.out; show _ = _; omega
                clear h44
                go_wp2_with (first | (go_at_call 16; refine (zzIsSpace_any _ _).mono ?_; rintro e w' ⟨rfl, hw⟩; obtain rfl := hw.symm; clear hw) | fail)
                go_round
                case rel => first | exact ⟨k + 1, x, by omega, hx, by go_num, rfl, st1, st2⟩ | (refine ⟨trivial, ?_⟩; (repeat apply Exists.intro); refine ⟨?_, rfl⟩; exact ⟨k + 1, x, by omega, hx, by go_num, rfl, st1, st2⟩)
                case measure => simp [intOf]; omega
              · have hns : ¬ (k < D.length ∧ (pk D k = 44 ∨ spB (pk D k) = true)) := fun h => h.2.elim h44 hsp
                have hkJ : k = J := (cend_stop hns).symm.trans hsJ.out
                have hcC : x = C := by have h1 := ccnt_stop hns; have := hsC.out; omega
                have hsp' : spB (pk D k) = false := by simpa using hsp
                clear hns hsp h44
                obtain rfl := hkJ.symm
                obtain rfl := hcC.symm
                clear hkJ hcC
                go_wp2_with (first | (go_at_call 16; refine (zzIsSpace_any _ _).mono ?_; rintro e w' ⟨rfl, hw⟩; obtain rfl := hw.symm; clear hw) | fail)
                go_loopw [13, 14] (fun cnt t wr => ∃ n s, n ≤ D.length ∧ cnt = .int .i64 (n : Nat) ∧ t = .int .i64 (n : Nat) ∧ Hid (Rd wr w2.heap.size D s) ∧ Hid (St D (p + 1) e s n) ∧ Hid (Below w2.heap.size w2 wr)) (fun _ t _ => D.length + 2 - (intOf t).toNat)
                case atStart => exact ⟨0, _, Nat.zero_le _, rfl, rfl, HR4, .inl ⟨rfl, rfl⟩, HL24⟩
                case round =>
                  obtain ⟨n, s, hn, rfl, rfl, HRs, HSs, HLs⟩ := hrel
                  have HLw := hide (HL2.out.trans (HLs.out.mono HL2.out.size))
                  have HFs := hide (show F.answers wr.tape by rw [HLw.out.tape]; exact hF)
                  go_wp2_with fail
                  refine (more_rd F _ D s _ HFs.out HRs.out).mono ?_
                  rintro e' w5 ⟨rfl, hbel5, hrd5⟩
                  have HL25 := hide (HLs.out.trans hbel5)
                  have HR5 := hide hrd5
                  clear hbel5 hrd5
                  rcases HSs.out.step he.out hpl with ⟨hm, hst⟩ | ⟨hm, hn2, hfin⟩
                  · have hle := hst.le (by omega) hpl
                    have HST := hide hst
                    clear hst
                    simp only [hm]
                    clear hm
                    go_wp2_with fail
                    go_roundw
                    case rel => exact ⟨n + 1, _, hle, by go_num, by go_num, HR5, HST, HL25⟩
                    case measure => simp [intOf]; omega
                  · simp only [hm]
                    clear hm
                    rw [hfin] at HR5
                    clear hfin
                    rw [hfinE.out] at HR5
                    rw [hwant.out] at hn2
                    subst hn2
                    have HL5 := hide (HL2.out.trans (HL25.out.mono HL2.out.size))
                    have HF5 := hide (show F.answers w5.tape by rw [HL5.out.tape]; exact hF)
                    go_wp2_with fail
                    refine (offset_rd _ D _ _ HR5.out).mono ?_
                    rintro e w' ⟨rfl, hw⟩
                    obtain rfl := hw.symm
                    clear hw
                    go_wp2_with fail
                    refine (more_rd F _ D _ _ HF5.out HR5.out).mono ?_
                    rintro e' w7 ⟨rfl, hbel7, hrd7⟩
                    have hm : more D ⟨J, true, [(e, true)]⟩ = (false, ⟨J, true, [(e, true)]⟩) := rfl
                    rw [hm] at hrd7
                    have HR7 := hide hrd7
                    have HL7 := hide (HL2.out.trans ((HL25.out.trans hbel7).mono HL2.out.size))
                    clear hbel7 hrd7
                    simp only [hm]
                    clear hm
                    go_wp2_with fail
                    refine (offset_rd _ D _ _ HR7.out).mono ?_
                    rintro e w' ⟨rfl, hw⟩
                    obtain rfl := hw.symm
                    clear hw
                    go_wp2_with fail
                    refine (zzErr_rd_some _ D _ _ HR7.out rfl).mono ?_
                    rintro e w' ⟨v, rfl, hw⟩
                    obtain rfl := hw.symm
                    clear hw
                    go_wp2_with fail
                    refine (zzDepth_rd _ D _ _ HR7.out).mono ?_
                    rintro e w' ⟨rfl, hw⟩
                    obtain rfl := hw.symm
                    clear hw
                    go_wp2
                    go_ret
                    exact ⟨rfl, HL7.out⟩
          · have hns : ¬ (k < D.length ∧ (pk D k = 44 ∨ spB (pk D k) = true)) := fun h => hlt h.1
            have hkJ : k = J := (cend_stop hns).symm.trans hsJ.out
            have hcC : x = C := by have h1 := ccnt_stop hns; have := hsC.out; omega
            clear hns
            exfalso; omega
    · have hst : k = p := (skip_stop (fun h => hlt h.1)).symm.trans hs.out
      exfalso; omega

set_option maxRecDepth 100000 in
set_option maxHeartbeats 8000000 in
theorem items_end0 (F : Interp) (a : Option Addr) (c : Nat) (D : List Int) (p J C : Nat) (e : Int) (w : World) (hF : F.answers w.tape) (hlen : D.length ≤ 1048576) (hb : Hid (Bo w a D)) (hp : Hid (skip D 0 = p))
    (hent : Hid (enter D ⟨0, false, []⟩ = ⟨p + 1, false, [(e, false)]⟩)) (hcz : Hid (closer (pk D p) = e)) (he : Hid (e = 93 ∨ e = 125)) (hpl : p < D.length) (h91 : (pk D p != 91) = false)
    (hJ : Hid (cend D (p + 1) = J)) (hC : Hid (ccnt D (p + 1) = C)) (hJl : J ≤ D.length) (hCl : C ≤ D.length)
    (hj : ¬ J < D.length) :
    Calls Tryf.prog 6 #[.slice a D.length c] w fun e w' => e = .returned (.bool true) ∧ Below w.heap.size w w' := by
  have hfinE : Hid (fin D (p + 1) e = ⟨J, true, [(e, true)]⟩) := by
    show fin D (p + 1) e = _
    unfold fin
    rw [hJ.out]
    rw [if_neg (by rw [pk_of_ge hj]; rcases he.out with h | h <;> rw [h] <;> decide)]
  have hwant : Hid (wantN D (p + 1) e = (C + 1)) := by
    show wantN D (p + 1) e = _
    unfold wantN
    rw [hJ.out, hC.out]
    rw [if_neg (fun h => by have h1 := h.1; rw [pk_of_ge hj] at h1; rcases he.out with h | h <;> rw [h] at h1 <;> revert h1 <;> decide)]
  go_enter Tryf.func6, Tryf.ntmps6
  go_wp2_with (go_at_call 25; refine (zzBytes25_yes _ _ _ _ hlen).mono ?_; rintro e w' ⟨rfl, hw⟩; obtain rfl := hw.symm; clear hw)
  refine (zzClone_any a c D _ hlen hb).mono ?_
  rintro e w1 ⟨a1, rfl, hb1, hbel1⟩
  have HB1 := hide hb1
  have HL1 := hide hbel1
  clear hb1 hbel1
  go_wp2_with fail
  refine (zzClone_any a1 _ D _ hlen (Bs.bo HB1.out)).mono ?_
  rintro e w2 ⟨a2, rfl, hb2, hbel2⟩
  have HB2 := hide hb2
  have HL2 := hide (below_step HL1.out hbel2 (Nat.le_refl _))
  have HB12 := hide (HB1.out.later hbel2 HB1.out.lo)
  clear hb2 hbel2
  go_wp2_with fail
  refine (newReader_rd a2 _ D _ hlen HB2.out).mono ?_
  rintro e w3 ⟨rfl, hbel3, hrd3⟩
  have HL23 := hide hbel3
  have HR3 := hide hrd3
  have HL3 := hide (below_step HL2.out hbel3 (Nat.le_refl _))
  have HB13 := hide (HB12.out.later hbel3 HB12.out.lo)
  clear hbel3 hrd3
  have HF3 := hide (show F.answers w3.tape by rw [HL3.out.tape]; exact hF)
  go_wp2_with fail
  refine (enter_rd F _ D _ _ HF3.out HR3.out rfl).mono ?_
  rintro e w4 ⟨rfl, hbel4, hrd4⟩
  rw [hent.out] at hrd4
  have HR4 := hide hrd4
  have HL24 := hide (HL23.out.trans hbel4)
  clear hbel4 hrd4
  have HL4 := hide (HL2.out.trans (HL24.out.mono HL2.out.size))
  have HF4 := hide (show F.answers w4.tape by rw [HL4.out.tape]; exact hF)
  have HB14 := hide (HB12.out.later HL24.out HB12.out.lo)
  go_wp2_with fail
  go_loop [4] (fun i => ∃ k : Nat, k ≤ D.length ∧ i = .int .i64 k ∧ Hid (skip D k = p)) (fun i => D.length - (intOf i).toNat)
  case atStart => exact ⟨0, Nat.zero_le _, rfl, hp⟩
  case round =>
    obtain ⟨k, hk, rfl, hs⟩ := hrel
    by_cases hlt : k < D.length
    · obtain ⟨db, rfl, hcl⟩ := HB14.out.cell hlt
      by_cases hsp : spB (pk D k) = true
      · have hst : Hid (skip D (k + 1) = p) := (skip_step hlt hsp).symm.trans hs.out
        go_wp2_with (first | (go_at_call 16; refine (zzIsSpace_any _ _).mono ?_; rintro e w' ⟨rfl, hw⟩; obtain rfl := hw.symm; clear hw) | fail)
        go_round
        case rel => exact ⟨k + 1, by omega, by go_num, hst⟩
        case measure => simp [intOf]; omega
      · have hst : k = p := (skip_stop (fun h => hsp h.2)).symm.trans hs.out
        have hsp' : spB (pk D k) = false := by simpa using hsp
        clear hsp
        obtain rfl := hst.symm
        clear hst
        have hd1 : decide ((D.length : Int) ≤ (p : Int)) = false := by simp; omega
        have hd2 : decide (D.length ≤ p) = false := by simp; omega
        have HB14c : Hid (∀ j, j < D.length → w4.cell? ⟨db, j, none⟩ = some (.int .u8 (pk D j))) := by
          intro j hj
          obtain ⟨db', h1, h2⟩ := HB14.out.cell hj
          cases h1
          exact h2
        go_wp2_with (first | (go_at_call 16; refine (zzIsSpace_any _ _).mono ?_; rintro e w' ⟨rfl, hw⟩; obtain rfl := hw.symm; clear hw) | fail)
        refine (zzCloser_any _ _).mono ?_
        rintro e' w' ⟨rfl, hw⟩
        obtain rfl := hw.symm
        clear hw
        simp only [hcz.out]
        go_wp2_with fail
        go_loop [7, 8] (fun j cm => ∃ k x : Nat, k ≤ D.length ∧ x ≤ D.length ∧ j = .int .i64 k ∧ cm = .int .i64 x ∧ Hid (cend D k = J) ∧ Hid (x + ccnt D k = C)) (fun j _ => D.length - (intOf j).toNat)
        case atStart => exact ⟨p + 1, 0, by omega, by omega, by go_num, rfl, hJ, by show 0 + _ = _; rw [Nat.zero_add]; exact hC.out⟩
        case round =>
          obtain ⟨k, x, hk, hx, rfl, rfl, hsJ, hsC⟩ := hrel
          by_cases hlt : k < D.length
          · have hcl' := HB14c.out k hlt
            by_cases h44 : pk D k = 44
            · have g1 : (pk D k == 44) = true := by simp [h44]
              have st1 : Hid (cend D (k + 1) = J) := (cend_step hlt (.inl h44)).symm.trans hsJ.out
              have st2 : Hid (x + 1 + ccnt D (k + 1) = C) := by have h := ccnt_step hlt (.inl h44); rw [if_pos h44] at h; have := hsC.out; show _ = _; omega
              have hx2 : x + 1 ≤ D.length := by have := st2.out; omega
              clear h44
              go_wp2_with (first | (go_at_call 16; refine (zzIsSpace_any _ _).mono ?_; rintro e w' ⟨rfl, hw⟩; obtain rfl := hw.symm; clear hw) | fail)
              go_round
              case rel => exact ⟨k + 1, x + 1, by omega, hx2, by go_num, by go_num, st1, st2⟩
              case measure => simp [intOf]; omega
            · have g1 : (pk D k == 44) = false := by simp [h44]
              by_cases hsp : spB (pk D k) = true
              · have st1 : Hid (cend D (k + 1) = J) := (cend_step hlt (.inr hsp)).symm.trans hsJ.out
                have st2 : Hid (x + ccnt D (k + 1) = C) := by have h := ccnt_step hlt (.inr hsp); rw [if_neg h44] at h; have := hsC.out; show _ = _; omega
                clear h44
                go_wp2_with (first | (go_at_call 16; refine (zzIsSpace_any _ _).mono ?_; rintro e w' ⟨rfl, hw⟩; obtain rfl := hw.symm; clear hw) | fail)
                go_round
                case rel => first | exact ⟨k + 1, x, by omega, hx, by go_num, rfl, st1, st2⟩ | (refine ⟨trivial, ?_⟩; (repeat apply Exists.intro); refine ⟨?_, rfl⟩; exact ⟨k + 1, x, by omega, hx, by go_num, rfl, st1, st2⟩)
                case measure => simp [intOf]; omega
              · have hns : ¬ (k < D.length ∧ (pk D k = 44 ∨ spB (pk D k) = true)) := fun h => h.2.elim h44 hsp
                have hkJ : k = J := (cend_stop hns).symm.trans hsJ.out
                have hcC : x = C := by have h1 := ccnt_stop hns; have := hsC.out; omega
                have hsp' : spB (pk D k) = false := by simpa using hsp
                clear hns hsp h44
                exfalso; omega
          · have hns : ¬ (k < D.length ∧ (pk D k = 44 ∨ spB (pk D k) = true)) := fun h => hlt h.1
            have hkJ : k = J := (cend_stop hns).symm.trans hsJ.out
            have hcC : x = C := by have h1 := ccnt_stop hns; have := hsC.out; omega
            clear hns
            obtain rfl := hkJ.symm
            obtain rfl := hcC.symm
            clear hkJ hcC
            go_wp2_with (first | (go_at_call 16; refine (zzIsSpace_any _ _).mono ?_; rintro e w' ⟨rfl, hw⟩; obtain rfl := hw.symm; clear hw) | fail)
            go_loopw [13, 14] (fun cnt t wr => ∃ n s, n ≤ D.length ∧ cnt = .int .i64 (n : Nat) ∧ t = .int .i64 (n : Nat) ∧ Hid (Rd wr w2.heap.size D s) ∧ Hid (St D (p + 1) e s n) ∧ Hid (Below w2.heap.size w2 wr)) (fun _ t _ => D.length + 2 - (intOf t).toNat)
            case atStart => exact ⟨0, _, Nat.zero_le _, rfl, rfl, HR4, .inl ⟨rfl, rfl⟩, HL24⟩
            case round =>
              obtain ⟨n, s, hn, rfl, rfl, HRs, HSs, HLs⟩ := hrel
              have HLw := hide (HL2.out.trans (HLs.out.mono HL2.out.size))
              have HFs := hide (show F.answers wr.tape by rw [HLw.out.tape]; exact hF)
              go_wp2_with fail
              refine (more_rd F _ D s _ HFs.out HRs.out).mono ?_
              rintro e' w5 ⟨rfl, hbel5, hrd5⟩
              have HL25 := hide (HLs.out.trans hbel5)
              have HR5 := hide hrd5
              clear hbel5 hrd5
              rcases HSs.out.step he.out hpl with ⟨hm, hst⟩ | ⟨hm, hn2, hfin⟩
              · have hle := hst.le (by omega) hpl
                have HST := hide hst
                clear hst
                simp only [hm]
                clear hm
                go_wp2_with fail
                go_roundw
                case rel => exact ⟨n + 1, _, hle, by go_num, by go_num, HR5, HST, HL25⟩
                case measure => simp [intOf]; omega
              · simp only [hm]
                clear hm
                rw [hfin] at HR5
                clear hfin
                rw [hfinE.out] at HR5
                rw [hwant.out] at hn2
                subst hn2
                have HL5 := hide (HL2.out.trans (HL25.out.mono HL2.out.size))
                have HF5 := hide (show F.answers w5.tape by rw [HL5.out.tape]; exact hF)
                go_wp2_with fail
                refine (offset_rd _ D _ _ HR5.out).mono ?_
                rintro e w' ⟨rfl, hw⟩
                obtain rfl := hw.symm
                clear hw
                go_wp2_with fail
                refine (more_rd F _ D _ _ HF5.out HR5.out).mono ?_
                rintro e' w7 ⟨rfl, hbel7, hrd7⟩
                have hm : more D ⟨J, true, [(e, true)]⟩ = (false, ⟨J, true, [(e, true)]⟩) := rfl
                rw [hm] at hrd7
                have HR7 := hide hrd7
                have HL7 := hide (HL2.out.trans ((HL25.out.trans hbel7).mono HL2.out.size))
                clear hbel7 hrd7
                simp only [hm]
                clear hm
                go_wp2_with fail
                refine (offset_rd _ D _ _ HR7.out).mono ?_
                rintro e w' ⟨rfl, hw⟩
                obtain rfl := hw.symm
                clear hw
                go_wp2_with fail
                refine (zzErr_rd_some _ D _ _ HR7.out rfl).mono ?_
                rintro e w' ⟨v, rfl, hw⟩
                obtain rfl := hw.symm
                clear hw
                go_wp2_with fail
                refine (zzDepth_rd _ D _ _ HR7.out).mono ?_
                rintro e w' ⟨rfl, hw⟩
                obtain rfl := hw.symm
                clear hw
                go_wp2
                go_ret
                exact ⟨rfl, HL7.out⟩
    · have hst : k = p := (skip_stop (fun h => hlt h.1)).symm.trans hs.out
      exfalso; omega

set_option maxRecDepth 100000 in
set_option maxHeartbeats 8000000 in
theorem items_end1 (F : Interp) (a : Option Addr) (c : Nat) (D : List Int) (p J C : Nat) (e : Int) (w : World) (hF : F.answers w.tape) (hlen : D.length ≤ 1048576) (hb : Hid (Bo w a D)) (hp : Hid (skip D 0 = p))
    (hent : Hid (enter D ⟨0, false, []⟩ = ⟨p + 1, false, [(e, false)]⟩)) (hcz : Hid (closer (pk D p) = e)) (he : Hid (e = 93 ∨ e = 125)) (hpl : p < D.length) (h91 : (pk D p != 91) = true) (h123 : (pk D p != 123) = false)
    (hJ : Hid (cend D (p + 1) = J)) (hC : Hid (ccnt D (p + 1) = C)) (hJl : J ≤ D.length) (hCl : C ≤ D.length)
    (hj : ¬ J < D.length) :
    Calls Tryf.prog 6 #[.slice a D.length c] w fun e w' => e = .returned (.bool true) ∧ Below w.heap.size w w' := by
  have hfinE : Hid (fin D (p + 1) e = ⟨J, true, [(e, true)]⟩) := by
    show fin D (p + 1) e = _
    unfold fin
    rw [hJ.out]
    rw [if_neg (by rw [pk_of_ge hj]; rcases he.out with h | h <;> rw [h] <;> decide)]
  have hwant : Hid (wantN D (p + 1) e = (C + 1)) := by
    show wantN D (p + 1) e = _
    unfold wantN
    rw [hJ.out, hC.out]
    rw [if_neg (fun h => by have h1 := h.1; rw [pk_of_ge hj] at h1; rcases he.out with h | h <;> rw [h] at h1 <;> revert h1 <;> decide)]
  go_enter Tryf.func6, Tryf.ntmps6
  go_wp2_with (go_at_call 25; refine (zzBytes25_yes _ _ _ _ hlen).mono ?_; rintro e w' ⟨rfl, hw⟩; obtain rfl := hw.symm; clear hw)
  refine (zzClone_any a c D _ hlen hb).mono ?_
  rintro e w1 ⟨a1, rfl, hb1, hbel1⟩
  have HB1 := hide hb1
  have HL1 := hide hbel1
  clear hb1 hbel1
  go_wp2_with fail
  refine (zzClone_any a1 _ D _ hlen (Bs.bo HB1.out)).mono ?_
  rintro e w2 ⟨a2, rfl, hb2, hbel2⟩
  have HB2 := hide hb2
  have HL2 := hide (below_step HL1.out hbel2 (Nat.le_refl _))
  have HB12 := hide (HB1.out.later hbel2 HB1.out.lo)
  clear hb2 hbel2
  go_wp2_with fail
  refine (newReader_rd a2 _ D _ hlen HB2.out).mono ?_
  rintro e w3 ⟨rfl, hbel3, hrd3⟩
  have HL23 := hide hbel3
  have HR3 := hide hrd3
  have HL3 := hide (below_step HL2.out hbel3 (Nat.le_refl _))
  have HB13 := hide (HB12.out.later hbel3 HB12.out.lo)
  clear hbel3 hrd3
  have HF3 := hide (show F.answers w3.tape by rw [HL3.out.tape]; exact hF)
  go_wp2_with fail
  refine (enter_rd F _ D _ _ HF3.out HR3.out rfl).mono ?_
  rintro e w4 ⟨rfl, hbel4, hrd4⟩
  rw [hent.out] at hrd4
  have HR4 := hide hrd4
  have HL24 := hide (HL23.out.trans hbel4)
  clear hbel4 hrd4
  have HL4 := hide (HL2.out.trans (HL24.out.mono HL2.out.size))
  have HF4 := hide (show F.answers w4.tape by rw [HL4.out.tape]; exact hF)
  have HB14 := hide (HB12.out.later HL24.out HB12.out.lo)
  go_wp2_with fail
  go_loop [4] (fun i => ∃ k : Nat, k ≤ D.length ∧ i = .int .i64 k ∧ Hid (skip D k = p)) (fun i => D.length - (intOf i).toNat)
  case atStart => exact ⟨0, Nat.zero_le _, rfl, hp⟩
  case round =>
    obtain ⟨k, hk, rfl, hs⟩ := hrel
    by_cases hlt : k < D.length
    · obtain ⟨db, rfl, hcl⟩ := HB14.out.cell hlt
      by_cases hsp : spB (pk D k) = true
      · have hst : Hid (skip D (k + 1) = p) := (skip_step hlt hsp).symm.trans hs.out
        go_wp2_with (first | (go_at_call 16; refine (zzIsSpace_any _ _).mono ?_; rintro e w' ⟨rfl, hw⟩; obtain rfl := hw.symm; clear hw) | fail)
        go_round
        case rel => exact ⟨k + 1, by omega, by go_num, hst⟩
        case measure => simp [intOf]; omega
      · have hst : k = p := (skip_stop (fun h => hsp h.2)).symm.trans hs.out
        have hsp' : spB (pk D k) = false := by simpa using hsp
        clear hsp
        obtain rfl := hst.symm
        clear hst
        have hd1 : decide ((D.length : Int) ≤ (p : Int)) = false := by simp; omega
        have hd2 : decide (D.length ≤ p) = false := by simp; omega
        have HB14c : Hid (∀ j, j < D.length → w4.cell? ⟨db, j, none⟩ = some (.int .u8 (pk D j))) := by
          intro j hj
          obtain ⟨db', h1, h2⟩ := HB14.out.cell hj
          cases h1
          exact h2
        go_wp2_with (first | (go_at_call 16; refine (zzIsSpace_any _ _).mono ?_; rintro e w' ⟨rfl, hw⟩; obtain rfl := hw.symm; clear hw) | fail)
        refine (zzCloser_any _ _).mono ?_
        rintro e' w' ⟨rfl, hw⟩
        obtain rfl := hw.symm
        clear hw
        simp only [hcz.out]
        go_wp2_with fail
        go_loop [7, 8] (fun j cm => ∃ k x : Nat, k ≤ D.length ∧ x ≤ D.length ∧ j = .int .i64 k ∧ cm = .int .i64 x ∧ Hid (cend D k = J) ∧ Hid (x + ccnt D k = C)) (fun j _ => D.length - (intOf j).toNat)
        case atStart => exact ⟨p + 1, 0, by omega, by omega, by go_num, rfl, hJ, by show 0 + _ = _; rw [Nat.zero_add]; exact hC.out⟩
        case round =>
          obtain ⟨k, x, hk, hx, rfl, rfl, hsJ, hsC⟩ := hrel
          by_cases hlt : k < D.length
          · have hcl' := HB14c.out k hlt
            by_cases h44 : pk D k = 44
            · have g1 : (pk D k == 44) = true := by simp [h44]
              have st1 : Hid (cend D (k + 1) = J) := (cend_step hlt (.inl h44)).symm.trans hsJ.out
              have st2 : Hid (x + 1 + ccnt D (k + 1) = C) := by have h := ccnt_step hlt (.inl h44); rw [if_pos h44] at h; have := hsC.out; show _ = _; omega
              have hx2 : x + 1 ≤ D.length := by have := st2.out; omega
              clear h44
              go_wp2_with (first | (go_at_call 16; refine (zzIsSpace_any _ _).mono ?_; rintro e w' ⟨rfl, hw⟩; obtain rfl := hw.symm; clear hw) | fail)
              go_round
              case rel => exact ⟨k + 1, x + 1, by omega, hx2, by go_num, by go_num, st1, st2⟩
              case measure => simp [intOf]; omega
            · have g1 : (pk D k == 44) = false := by simp [h44]
              by_cases hsp : spB (pk D k) = true
              · have st1 : Hid (cend D (k + 1) = J) := (cend_step hlt (.inr hsp)).symm.trans hsJ.out
                have st2 : Hid (x + ccnt D (k + 1) = C) := by have h := ccnt_step hlt (.inr hsp); rw [if_neg h44] at h; have := hsC.out; show _ = _; omega
                clear h44
                go_wp2_with (first | (go_at_call 16; refine (zzIsSpace_any _ _).mono ?_; rintro e w' ⟨rfl, hw⟩; obtain rfl := hw.symm; clear hw) | fail)
                go_round
                case rel => first | exact ⟨k + 1, x, by omega, hx, by go_num, rfl, st1, st2⟩ | (refine ⟨trivial, ?_⟩; (repeat apply Exists.intro); refine ⟨?_, rfl⟩; exact ⟨k + 1, x, by omega, hx, by go_num, rfl, st1, st2⟩)
                case measure => simp [intOf]; omega
              · have hns : ¬ (k < D.length ∧ (pk D k = 44 ∨ spB (pk D k) = true)) := fun h => h.2.elim h44 hsp
                have hkJ : k = J := (cend_stop hns).symm.trans hsJ.out
                have hcC : x = C := by have h1 := ccnt_stop hns; have := hsC.out; omega
                have hsp' : spB (pk D k) = false := by simpa using hsp
                clear hns hsp h44
                exfalso; omega
          · have hns : ¬ (k < D.length ∧ (pk D k = 44 ∨ spB (pk D k) = true)) := fun h => hlt h.1
            have hkJ : k = J := (cend_stop hns).symm.trans hsJ.out
            have hcC : x = C := by have h1 := ccnt_stop hns; have := hsC.out; omega
            clear hns
            obtain rfl := hkJ.symm
            obtain rfl := hcC.symm
            clear hkJ hcC
            go_wp2_with (first | (go_at_call 16; refine (zzIsSpace_any _ _).mono ?_; rintro e w' ⟨rfl, hw⟩; obtain rfl := hw.symm; clear hw) | fail)
            go_loopw [13, 14] (fun cnt t wr => ∃ n s, n ≤ D.length ∧ cnt = .int .i64 (n : Nat) ∧ t = .int .i64 (n : Nat) ∧ Hid (Rd wr w2.heap.size D s) ∧ Hid (St D (p + 1) e s n) ∧ Hid (Below w2.heap.size w2 wr)) (fun _ t _ => D.length + 2 - (intOf t).toNat)
            case atStart => exact ⟨0, _, Nat.zero_le _, rfl, rfl, HR4, .inl ⟨rfl, rfl⟩, HL24⟩
            case round =>
              obtain ⟨n, s, hn, rfl, rfl, HRs, HSs, HLs⟩ := hrel
              have HLw := hide (HL2.out.trans (HLs.out.mono HL2.out.size))
              have HFs := hide (show F.answers wr.tape by rw [HLw.out.tape]; exact hF)
              go_wp2_with fail
              refine (more_rd F _ D s _ HFs.out HRs.out).mono ?_
              rintro e' w5 ⟨rfl, hbel5, hrd5⟩
              have HL25 := hide (HLs.out.trans hbel5)
              have HR5 := hide hrd5
              clear hbel5 hrd5
              rcases HSs.out.step he.out hpl with ⟨hm, hst⟩ | ⟨hm, hn2, hfin⟩
              · have hle := hst.le (by omega) hpl
                have HST := hide hst
                clear hst
                simp only [hm]
                clear hm
                go_wp2_with fail
                go_roundw
                case rel => exact ⟨n + 1, _, hle, by go_num, by go_num, HR5, HST, HL25⟩
                case measure => simp [intOf]; omega
              · simp only [hm]
                clear hm
                rw [hfin] at HR5
                clear hfin
                rw [hfinE.out] at HR5
                rw [hwant.out] at hn2
                subst hn2
                have HL5 := hide (HL2.out.trans (HL25.out.mono HL2.out.size))
                have HF5 := hide (show F.answers w5.tape by rw [HL5.out.tape]; exact hF)
                go_wp2_with fail
                refine (offset_rd _ D _ _ HR5.out).mono ?_
                rintro e w' ⟨rfl, hw⟩
                obtain rfl := hw.symm
                clear hw
                go_wp2_with fail
                refine (more_rd F _ D _ _ HF5.out HR5.out).mono ?_
                rintro e' w7 ⟨rfl, hbel7, hrd7⟩
                have hm : more D ⟨J, true, [(e, true)]⟩ = (false, ⟨J, true, [(e, true)]⟩) := rfl
                rw [hm] at hrd7
                have HR7 := hide hrd7
                have HL7 := hide (HL2.out.trans ((HL25.out.trans hbel7).mono HL2.out.size))
                clear hbel7 hrd7
                simp only [hm]
                clear hm
                go_wp2_with fail
                refine (offset_rd _ D _ _ HR7.out).mono ?_
                rintro e w' ⟨rfl, hw⟩
                obtain rfl := hw.symm
                clear hw
                go_wp2_with fail
                refine (zzErr_rd_some _ D _ _ HR7.out rfl).mono ?_
                rintro e w' ⟨v, rfl, hw⟩
                obtain rfl := hw.symm
                clear hw
                go_wp2_with fail
                refine (zzDepth_rd _ D _ _ HR7.out).mono ?_
                rintro e w' ⟨rfl, hw⟩
                obtain rfl := hw.symm
                clear hw
                go_wp2
                go_ret
                exact ⟨rfl, HL7.out⟩
    · have hst : k = p := (skip_stop (fun h => hlt h.1)).symm.trans hs.out
      exfalso; omega

end Go.Proofs.Qxb6616904aFmt
