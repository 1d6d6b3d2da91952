import Derived.Test.Qxb6616904aFmtLo
namespace Go.Proofs.Qxb6616904aFmt
set_option linter.unusedVariables false
set_option linter.unusedSimpArgs false
open Go.RowKit Go.Extern.Stop Go.Stop Go.Extern

theorem belowDrewN {B n : Nat} {w w' : World} (h : Below B w w') : Below B w (w'.drewN n) := ⟨h.os, h.tape, h.output, h.size, h.block⟩
theorem Rd.drewN {w : World} {rb n : Nat} {D : List Int} {s : RS} (h : Rd w rb D s) : Rd (w.drewN n) rb D s := h.later (belowDrewN (Below.refl w.heap.size w)) (Nat.le_refl _)
theorem getD_ofNat (A : List Nat) (t : Nat) : (A.map Int.ofNat).getD t 0 = ((A.getD t 0 : Nat) : Int) := by
  by_cases h : t < A.length
  · simp [List.getD, h]
  · simp [List.getD, List.getElem?_eq_none (Nat.le_of_not_lt h)]
theorem cell_lo {w w' : World} {B g j : Nat} {v : Value} (hb : Below B w w') (hg : g < B) (h : w.cell? ⟨g, j, none⟩ = some v) : w'.cell? ⟨g, j, none⟩ = some v := (hb.cell (p := ⟨g, j, none⟩) hg).trans h
theorem lvs_get {D : List Int} {k n : Nat} (h : k < (oE D).length) (hn : k < n) : (lvs D n)[k]? = some ((oE D).getD k 0, false) := by
  simp [lvs, List.getElem?_take, hn, h, List.getD]

set_option maxRecDepth 100000 in
set_option maxHeartbeats 400000 in
theorem nests_long (a : Option Addr) (c : Nat) (D : List Int) (w : World) (hlen : ¬ D.length ≤ 1048576) :
    Calls Tryf.prog 4 #[.slice a D.length c] w fun e w' => e = .returned (.bool true) ∧ Below w.heap.size w w' := by
  go_enter Tryf.func4, Tryf.ntmps4
  go_wp2_with (go_at_call 17; refine (zzBytes17_no _ _ _ _ hlen).mono ?_; rintro e w' ⟨rfl, rfl⟩)
  go_ret
  exact ⟨rfl, Below.refl _ _⟩

set_option maxRecDepth 100000 in
set_option maxHeartbeats 8000000 in
theorem nests_main (F : Interp) (a : Option Addr) (c : Nat) (D : List Int) (n S : Nat) (w : World) (hF : F.answers w.tape) (hlen : D.length ≤ 1048576) (hb : Hid (Bo w a D)) (hn : Hid ((oE D).length = n)) (hS : Hid (oS D = S)) :
    Calls Tryf.prog 4 #[.slice a D.length c] w fun e w' => e = .returned (.bool true) ∧ Below w.heap.size w w' := by
  have hn1 : n ≤ 10000 := by rw [← hn.out]; exact oE_le D
  have hn2 : n ≤ D.length := by rw [← hn.out]; exact oE_len D
  go_enter Tryf.func4, Tryf.ntmps4
  go_wp2_with (go_at_call 17; refine (zzBytes17_yes _ _ _ _ hlen).mono ?_; rintro e w' ⟨rfl, hw⟩; obtain rfl := hw.symm; clear hw)
  refine (zzClone_any a c D _ hlen hb).mono ?_
  rintro e w1 ⟨a1, rfl, hb1, hbel1⟩
  have HB1 := hide hb1
  have HL1 := hide hbel1
  clear hb1 hbel1
  go_wp2_with fail
  refine (lo_walk a1 D _ hlen HB1).mono ?_
  rintro e w2 ⟨eb, ec, ab, ac, rfl, hbel2, hE2, hA2⟩
  rw [hn.out] at hE2 hA2 ⊢
  rw [hS.out]
  have HE2 := hide hE2
  have HA2 := hide hA2
  have HL2 := hide (below_step HL1.out hbel2 (Nat.le_refl _))
  have HB12 := hide (HB1.out.later hbel2 HB1.out.lo)
  clear hbel2 hE2 hA2
  go_wp2_with fail
  refine (zzClone_any a1 _ D _ hlen (Bs.bo HB12.out)).mono ?_
  rintro e w3 ⟨a3, rfl, hb3, hbel3⟩
  have HB3 := hide hb3
  have HL3 := hide (below_step HL2.out hbel3 (Nat.le_refl _))
  have HE3 := hide (HE2.out.later hbel3 HE2.out.lt)
  have HA3 := hide (HA2.out.later hbel3 HA2.out.lt)
  clear hb3 hbel3
  go_wp2_with fail
  refine (newReader_rd a3 _ D _ hlen HB3.out).mono ?_
  rintro e w4 ⟨rfl, hbel4, hrd4⟩
  have HL34 := hide hbel4
  have HR4 := hide hrd4
  clear hbel4 hrd4
  go_wp2_with fail
  go_loopw [7, 8] (fun ev tv wr => ∃ t pos : Nat, t ≤ n ∧ ev = .int .i64 t ∧ tv = .int .i64 t ∧ Hid (Rd wr w3.heap.size D ⟨pos, false, lvs D t⟩) ∧ Hid (At D t pos) ∧ Hid (Below w3.heap.size w3 wr)) (fun _ tv _ => n - (intOf tv).toNat)
  case atStart => exact ⟨0, 0, Nat.zero_le _, rfl, rfl, HR4, At.zero D, HL34⟩
  case round =>
    obtain ⟨t, pos, ht, rfl, rfl, HRt, HAt, HLt⟩ := hrel
    have HLw := hide (HL3.out.trans (HLt.out.mono HL3.out.size))
    have HFt := hide (show F.answers wr.tape by rw [HLw.out.tape]; exact hF)
    by_cases htn : t < n
    · obtain ⟨hent, hat⟩ := HAt.out.step (by rw [hn.out]; exact htn)
      obtain ⟨Av, hAv⟩ : ∃ Av, Av = (oA D).getD t 0 := ⟨_, rfl⟩
      rw [← hAv] at hent hat
      have HENT := hide hent
      have HAT := hide hat
      have hac := HA3.out.cell (j := t) htn
      rw [getD_ofNat, ← hAv] at hac
      have HAv := hide hAv
      clear hent hat hAv
      go_wp2_with fail
      refine (enter_rd F _ D _ _ HFt.out HRt.out rfl).mono ?_
      rintro e w5 ⟨rfl, hbel5, hrd5⟩
      rw [HENT.out] at hrd5
      have HR5 := hide hrd5
      have HL5 := hide (HLt.out.trans hbel5)
      have hac5 := cell_lo HL5.out HA3.out.lt hac
      have hld : Hid ((lvs D (t + 1)).length = t + 1) := lvs_length (by rw [hn.out]; exact htn)
      clear hrd5 hbel5 hac
      go_wp2_with fail
      refine (zzErr_rd_nil _ D _ _ HR5.out rfl).mono ?_
      rintro e w' ⟨rfl, hw⟩
      obtain rfl := hw.symm
      clear hw
      go_wp2_with fail
      go_quiet ((go_at_call 12; exact Calls.quiet_of_same (offset_rd _ D _ _ HR5.out.drewN)))
      go_wp2_with fail
      refine (zzDepth_rd _ D _ _ HR5.out.drewN).mono ?_
      rintro e w' ⟨rfl, hw⟩
      obtain rfl := hw.symm
      clear hw
      simp only [hld.out]
      go_wp2_with fail
      go_roundw
      case rel => exact ⟨t + 1, Av, by omega, by go_num, by go_num, HR5.out.drewN, HAT, belowDrewN HL5.out⟩
      case measure => simp [intOf]; omega
    · obtain rfl : n = t := by omega
      rename World => w5
      have hla : enter D ⟨pos, false, lvs D n⟩ = ⟨S, true, lvs D n⟩ := by
        have h := HAt.out
        rw [← hn.out] at h ⊢
        rw [← hS.out]
        exact h.last.1
      have HENT := hide hla
      clear hla
      go_wp2_with fail
      refine (enter_rd F _ D _ _ HFt.out HRt.out rfl).mono ?_
      rintro e w6 ⟨rfl, hbel6, hrd6⟩
      rw [HENT.out] at hrd6
      have HR6 := hide hrd6
      have HL6 := hide (HLt.out.trans hbel6)
      have HLz := hide (HL3.out.trans (HL6.out.mono HL3.out.size))
      have hld : Hid ((lvs D n).length = n) := lvs_length (by rw [hn.out]; exact Nat.le_refl _)
      have HE6 := hide (HE3.out.later HL6.out HE3.out.lt)
      clear hrd6 hbel6
      go_wp2_with fail
      refine (zzErr_rd_some _ D _ _ HR6.out rfl).mono ?_
      rintro e w' ⟨v, rfl, hw⟩
      obtain rfl := hw.symm
      clear hw
      go_wp2_with fail
      refine (zzErr_rd_some _ D _ _ HR6.out rfl).mono ?_
      rintro e w' ⟨v2, rfl, hw⟩
      obtain rfl := hw.symm
      clear hw
      go_wp2_with fail
      refine (offset_rd _ D _ _ HR6.out).mono ?_
      rintro e w' ⟨rfl, hw⟩
      obtain rfl := hw.symm
      clear hw
      go_wp2_with fail
      refine (zzDepth_rd _ D _ _ HR6.out).mono ?_
      rintro e w' ⟨rfl, hw⟩
      obtain rfl := hw.symm
      clear hw
      simp only [hld.out]
      go_wp2_with fail
      go_loopw [9] (fun kv wx => ∃ k : Nat, k ≤ n ∧ kv = .int .i64 k ∧ Hid (Rd wx w3.heap.size D ⟨S, true, lvs D n⟩) ∧ Hid (Below w3.heap.size w3 wx)) (fun kv _ => n - (intOf kv).toNat)
      case atStart => exact ⟨0, Nat.zero_le _, rfl, HR6, HL6⟩
      case round =>
        obtain ⟨k, hk, rfl, HRk, HLk⟩ := hrel
        have HEk := hide (HE3.out.later HLk.out HE3.out.lt)
        by_cases hkn : k < n
        · obtain ⟨ev, hev⟩ : ∃ ev, ev = (oE D).getD k 0 := ⟨_, rfl⟩
          have hec := HEk.out.cell (j := k) hkn
          rw [← hev] at hec
          have HX : Hid ((lvs D n)[k]? = some (ev, false)) := by
            rw [hev]
            exact lvs_get (by rw [hn.out]; exact hkn) (by omega)
          clear hev
          go_wp2_with fail
          go_quiet ((first | (go_at_call 20; exact Calls.quiet_of_same (zzLevelEnd_rd _ D _ k (ev, false) _ HRk.out.drewN HX.out)) | (go_at_call 21; exact Calls.quiet_of_same (zzLevelItems_rd _ D _ k (ev, false) _ HRk.out.drewN HX.out))))
          go_wp2_with fail
          go_roundw
          case rel => exact ⟨k + 1, by omega, by go_num, HRk.out.drewN, belowDrewN HLk.out⟩
          case measure => simp [intOf]; omega
        · go_wp2_with fail
          go_ret
          exact ⟨rfl, HL3.out.trans (HLk.out.mono HL3.out.size)⟩

end Go.Proofs.Qxb6616904aFmt
