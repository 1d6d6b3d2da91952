import Derived.Test.Qxb6616904aFmtLo
namespace Go.Proofs.Qxb6616904aFmt
set_option linter.unusedVariables false
set_option linter.unusedSimpArgs false
open Go.RowKit Go.Extern.Stop Go.Stop Go.Extern

set_option maxRecDepth 100000 in
set_option maxHeartbeats 400000 in
theorem closes_long (a : Option Addr) (c : Nat) (D : List Int) (w : World) (hlen : ¬ D.length ≤ 1048576) :
    Calls Tryf.prog 7 #[.slice a D.length c] w fun e w' => e = .returned (.bool true) ∧ Below w.heap.size w w' := by
  go_enter Tryf.func7, Tryf.ntmps7
  go_wp2_with (go_at_call 26; refine (zzBytes26_no _ _ _ _ hlen).mono ?_; rintro e w' ⟨rfl, rfl⟩)
  go_ret
  exact ⟨rfl, Below.refl _ _⟩

set_option maxRecDepth 100000 in
set_option maxHeartbeats 4000000 in
theorem closes_zero (F : Interp) (a : Option Addr) (c : Nat) (D : List Int) (n : Nat) (w : World) (hF : F.answers w.tape) (hlen : D.length ≤ 1048576) (hb : Hid (Bo w a D)) (hn : Hid ((oE D).length = n))
    (h0 : Hid (n = 0)) :
    Calls Tryf.prog 7 #[.slice a D.length c] w fun e w' => e = .returned (.bool true) ∧ Below w.heap.size w w' := by
  have hn1 : n ≤ 10000 := by rw [← hn.out]; exact oE_le D
  have hn2 : n ≤ D.length := by rw [← hn.out]; exact oE_len D
  go_enter Tryf.func7, Tryf.ntmps7
  go_wp2_with (go_at_call 26; refine (zzBytes26_yes _ _ _ _ hlen).mono ?_; rintro e w' ⟨rfl, hw⟩; obtain rfl := hw.symm; clear hw)
  refine (zzClone_any a c D _ hlen hb).mono ?_
  rintro e w1 ⟨a1, rfl, hb1, hbel1⟩
  have HB1 := hide hb1
  have HL1 := hide hbel1
  clear hb1 hbel1
  go_wp2_with fail
  refine (lo_walk a1 D _ hlen HB1).mono ?_
  rintro e w2 ⟨eb, ec, ab, ac, rfl, hbel2, hE2, hA2⟩
  rw [hn.out] at hE2 hA2 ⊢
  have HE2 := hide hE2
  have HL2 := hide (below_step HL1.out hbel2 (Nat.le_refl _))
  have HB12 := hide (HB1.out.later hbel2 HB1.out.lo)
  clear hbel2 hE2 hA2
  go_wp2_with fail
  refine (zzClone_any a1 _ D _ hlen (Bs.bo HB12.out)).mono ?_
  rintro e w3 ⟨a3, rfl, hb3, hbel3⟩
  have HB3 := hide hb3
  have HL3 := hide (below_step HL2.out hbel3 (Nat.le_refl _))
  have HB13 := hide (HB12.out.later hbel3 HB12.out.lo)
  have HE3 := hide (HE2.out.later hbel3 HE2.out.lt)
  clear hb3 hbel3
  go_wp2_with fail
  refine (newReader_rd a3 _ D _ hlen HB3.out).mono ?_
  rintro e w4 ⟨rfl, hbel4, hrd4⟩
  have HL34 := hide hbel4
  have HR4 := hide hrd4
  clear hbel4 hrd4
  go_wp2_with fail
  go_loopw [8] (fun tv wr => ∃ t pos : Nat, t ≤ n ∧ tv = .int .i64 t ∧ Hid (t = 0 → pos = 0) ∧ Hid (Rd wr w3.heap.size D ⟨pos, false, lvs D t⟩) ∧ Hid (At D t pos) ∧ Hid (Below w3.heap.size w3 wr)) (fun tv _ => n - (intOf tv).toNat)
  case atStart => exact ⟨0, 0, Nat.zero_le _, rfl, fun _ => rfl, HR4, At.zero D, HL34⟩
  case round =>
    obtain ⟨t, pos, ht, rfl, HZ, HRt, HAt, HLt⟩ := hrel
    have HLw := hide (HL3.out.trans (HLt.out.mono HL3.out.size))
    have HFt := hide (show F.answers wr.tape by rw [HLw.out.tape]; exact hF)
    by_cases htn : t < n
    · obtain ⟨hent, hat⟩ := HAt.out.step (by rw [hn.out]; exact htn)
      have HENT := hide hent
      have HAT := hide hat
      clear hent hat
      go_wp2_with fail
      refine (enter_rd F _ D _ _ HFt.out HRt.out rfl).mono ?_
      rintro e w5 ⟨rfl, hbel5, hrd5⟩
      rw [HENT.out] at hrd5
      have HR5 := hide hrd5
      have HL5 := hide (HLt.out.trans hbel5)
      clear hrd5 hbel5
      go_wp2_with fail
      go_roundw
      case rel => exact ⟨t + 1, _, by omega, by go_num, (fun h => by omega), HR5, HAT, HL5⟩
      case measure => simp [intOf]; omega
    · obtain rfl : n = t := by omega
      have hnz : ((n : Int) == 0) = true := by simp [h0.out]
      have hpos : pos = 0 := HZ.out h0.out
      subst hpos
      have hlv : lvs D n = [] := by rw [h0.out]; rfl
      rw [hlv] at HRt
      clear hlv
      go_wp2_with fail
      refine (more_rd F _ D _ _ HFt.out HRt.out).mono ?_
      rintro e w5 ⟨rfl, hbel5, hrd5⟩
      have hm : more D ⟨0, false, []⟩ = (false, ⟨0, false, []⟩) := rfl
      rw [hm] at hrd5
      have HR5 := hide hrd5
      have HL5 := hide (HL3.out.trans ((HLt.out.trans hbel5).mono HL3.out.size))
      clear hbel5 hrd5
      simp only [hm]
      clear hm
      go_wp2_with fail
      refine (offset_rd _ D _ _ HR5.out).mono ?_
      rintro e w' ⟨rfl, hw⟩
      obtain rfl := hw.symm
      clear hw
      go_wp2_with fail
      refine (zzErr_rd_nil _ D _ _ HR5.out rfl).mono ?_
      rintro e w' ⟨rfl, hw⟩
      obtain rfl := hw.symm
      clear hw
      go_wp2_with fail
      refine (zzDepth_rd _ D _ _ HR5.out).mono ?_
      rintro e w' ⟨rfl, hw⟩
      obtain rfl := hw.symm
      clear hw
      go_wp2
      go_ret
      exact ⟨rfl, HL5.out⟩

end Go.Proofs.Qxb6616904aFmt
