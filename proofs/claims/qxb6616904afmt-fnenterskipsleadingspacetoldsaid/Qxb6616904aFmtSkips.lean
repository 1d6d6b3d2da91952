import Derived.Test.Qxb6616904aFmtJoin
import Derived.Deep.RegionWith
namespace Go.Proofs.Qxb6616904aFmt
set_option linter.unusedVariables false
set_option linter.unusedSimpArgs false
open Go.RowKit Go.Extern.Stop Go.Stop Go.Extern

theorem belowDrewN {B n : Nat} {w w' : World} (h : Below B w w') : Below B w (w'.drewN n) := ⟨h.os, h.tape, h.output, h.size, h.block⟩
theorem Rd.drewN {w : World} {rb n : Nat} {D : List Int} {s : RS} (h : Rd w rb D s) : Rd (w.drewN n) rb D s := h.later (belowDrewN (Below.refl w.heap.size w)) (Nat.le_refl _)
theorem Rd.err_cell {w : World} {rb : Nat} {D : List Int} {s : RS} (h : Rd w rb D s) (he : s.err = true) : ∃ v, w.cell? ⟨rb, 2, none⟩ = some (.iface 62 v) := by
  obtain ⟨da, dc, ev, la, cap, hr, _, _, _, hev, _⟩ := h
  rcases hev with ⟨h, _⟩ | ⟨_, v, rfl⟩
  · rw [he] at h; cases h
  · exact ⟨v, rd2 hr⟩
theorem Bo.later {w w' : World} {a : Option Addr} {D : List Int} (h : Bo w a D) (hb : Below w.heap.size w w') : Bo w' a D :=
  ⟨h.1, fun i hi => by obtain ⟨b, o, e, hc⟩ := h.2 i hi; exact ⟨b, o, e, cell_later hb hc⟩⟩

set_option maxRecDepth 100000 in
set_option maxHeartbeats 400000 in
theorem skips_long (a b : Option Addr) (ca cb : Nat) (A B : List Int) (w : World) (hlen : ¬ A.length + B.length ≤ 1048576) :
    Calls Tryf.prog 5 #[.slice a A.length ca, .slice b B.length cb] w fun e w' => e = .returned (.bool true) ∧ Below w.heap.size w w' := by
  go_enter Tryf.func5, Tryf.ntmps5
  go_wp2_with (go_at_call 22; refine (zzBytes22_no _ _ _ _ _ _ _ hlen).mono ?_; rintro e w' ⟨rfl, rfl⟩)
  go_ret
  exact ⟨rfl, Below.refl _ _⟩

set_option maxRecDepth 100000 in
set_option maxHeartbeats 2000000 in
theorem skips_bad (F : Interp) (a b : Option Addr) (ca cb : Nat) (A B : List Int) (w : World) (hF : F.answers w.tape) (hlen : A.length + B.length ≤ 1048576) (ha : Hid (Bo w a A)) (hb : Hid (Bo w b B)) (hbad : Hid (¬ ∀ j, j < A.length → spB (pk A j) = true)) :
    Calls Tryf.prog 5 #[.slice a A.length ca, .slice b B.length cb] w fun e w' => e = .returned (.bool true) ∧ Below w.heap.size w w' := by
  go_enter Tryf.func5, Tryf.ntmps5
  go_wp2_with (go_at_call 22; refine (zzBytes22_yes _ _ _ _ _ _ _ hlen).mono ?_; rintro e w' ⟨rfl, hw⟩; obtain rfl := hw.symm; clear hw)
  go_loop [5] (fun i => ∃ k : Nat, k ≤ A.length ∧ i = .int .i64 k ∧ Hid (∀ j, j < k → spB (pk A j) = true)) (fun i => A.length - (intOf i).toNat)
  case atStart => exact ⟨0, Nat.zero_le _, rfl, fun j hj => by omega⟩
  case round =>
    obtain ⟨k, hk, rfl, hs⟩ := hrel
    by_cases hlt : k < A.length
    · obtain ⟨b0, o0, rfl, hcl⟩ := ha.out.2 k hlt
      by_cases hsp : spB (pk A k) = true
      · have hs' : Hid (∀ j, j < k + 1 → spB (pk A j) = true) := fun j hj => by
          by_cases e : j = k
          · rw [e]; exact hsp
          · exact hs.out j (by omega)
        go_wp2_with (first | (go_at_call 16; refine (zzIsSpace_any _ _).mono ?_; rintro e w' ⟨rfl, hw⟩; obtain rfl := hw.symm; clear hw) | fail)
        go_round
        case rel => exact ⟨k + 1, by omega, by go_num, hs'⟩
        case measure => simp [intOf]; omega
      · have hsp' : spB (pk A k) = false := by simpa using hsp
        clear hsp
        go_wp2_with (first | (go_at_call 16; refine (zzIsSpace_any _ _).mono ?_; rintro e w' ⟨rfl, hw⟩; obtain rfl := hw.symm; clear hw) | fail)
        go_ret
        exact ⟨rfl, Below.refl _ _⟩
    · obtain rfl : A.length = k := by omega
      exact absurd hs.out hbad.out

set_option maxRecDepth 100000 in
set_option maxHeartbeats 8000000 in
theorem skips_in91 (F : Interp) (a b : Option Addr) (ca cb : Nat) (A B : List Int) (w : World) (hF : F.answers w.tape) (hlen : A.length + B.length ≤ 1048576) (ha : Hid (Bo w a A)) (hb : Hid (Bo w b B)) (D : List Int) (hD : Hid (A ++ B = D)) (p : Nat) (hp : Hid (skip B 0 = p))
    (e : Int) (hcz : Hid (closer (pk B p) = e)) (hpl : p < B.length) (hentA : Hid (enter D ⟨0, false, []⟩ = ⟨A.length + (p + 1), false, [(e, false)]⟩)) (hentB : Hid (enter B ⟨0, false, []⟩ = ⟨p + 1, false, [(e, false)]⟩)) (h91 : (pk B p == 91) = true) :
    Calls Tryf.prog 5 #[.slice a A.length ca, .slice b B.length cb] w fun e w' => e = .returned (.bool true) ∧ Below w.heap.size w w' := by
  go_enter Tryf.func5, Tryf.ntmps5
  go_wp2_with (go_at_call 22; refine (zzBytes22_yes _ _ _ _ _ _ _ hlen).mono ?_; rintro e w' ⟨rfl, hw⟩; obtain rfl := hw.symm; clear hw)
  go_loop [5] (fun i => ∃ k : Nat, k ≤ A.length ∧ i = .int .i64 k ∧ Hid (∀ j, j < k → spB (pk A j) = true)) (fun i => A.length - (intOf i).toNat)
  case atStart => exact ⟨0, Nat.zero_le _, rfl, fun j hj => by omega⟩
  case round =>
    obtain ⟨k, hk, rfl, hs⟩ := hrel
    by_cases hlt : k < A.length
    · obtain ⟨b0, o0, rfl, hcl⟩ := ha.out.2 k hlt
      by_cases hsp : spB (pk A k) = true
      · have hs' : Hid (∀ j, j < k + 1 → spB (pk A j) = true) := fun j hj => by
          by_cases e : j = k
          · rw [e]; exact hsp
          · exact hs.out j (by omega)
        go_wp2_with (first | (go_at_call 16; refine (zzIsSpace_any _ _).mono ?_; rintro e w' ⟨rfl, hw⟩; obtain rfl := hw.symm; clear hw) | fail)
        go_round
        case rel => exact ⟨k + 1, by omega, by go_num, hs'⟩
        case measure => simp [intOf]; omega
      · have hsp' : spB (pk A k) = false := by simpa using hsp
        clear hsp
        go_wp2_with (first | (go_at_call 16; refine (zzIsSpace_any _ _).mono ?_; rintro e w' ⟨rfl, hw⟩; obtain rfl := hw.symm; clear hw) | fail)
        go_ret
        exact ⟨rfl, Below.refl _ _⟩
    · obtain rfl : A.length = k := by omega
      have hla : A.length ≤ 1048576 := by omega
      have hlb : B.length ≤ 1048576 := by omega
      have hlab : D.length ≤ 1048576 := by rw [← hD.out, List.length_append]; exact hlen
      have HLAB := hide hlab
      clear hlab
      go_wp2_with fail
      refine (zzClone_any a ca A _ hla ha).mono ?_
      rintro e w1 ⟨a1, rfl, hb1, hbel1⟩
      have HA1 := hide hb1
      have HL1 := hide hbel1
      have HBo1 := hide (hb.out.later hbel1)
      clear hb1 hbel1
      go_wp2_with fail
      refine (zzClone_any b cb B _ hlb HBo1).mono ?_
      rintro e w2 ⟨b2, rfl, hb2, hbel2⟩
      have HB2 := hide hb2
      have HL2 := hide (below_step HL1.out hbel2 (Nat.le_refl _))
      have HA2 := hide (HA1.out.later hbel2 HA1.out.lo)
      clear hb2 hbel2
      go_wp2_with fail
      refine (zzJoin_any a1 b2 _ _ A B _ hlen HA2 HB2).mono ?_
      rintro e w3 ⟨j3, rfl, hb3, hbel3⟩
      rw [hD.out] at hb3 ⊢
      have HJ3 := hide hb3
      have HL3 := hide (below_step HL2.out hbel3 (Nat.le_refl _))
      have HB3 := hide (HB2.out.later hbel3 HB2.out.lo)
      clear hb3 hbel3
      go_wp2_with fail
      refine (newReader_rd j3 _ D _ HLAB.out HJ3.out).mono ?_
      rintro e w4 ⟨rfl, hbel4, hrd4⟩
      have HL34 := hide hbel4
      have HL4 := hide (below_step HL3.out hbel4 (Nat.le_refl _))
      have HR4 := hide hrd4
      clear hbel4 hrd4
      have HF4 := hide (show F.answers w4.tape by rw [HL4.out.tape]; exact hF)
      go_wp2_with fail
      refine (enter_rd F _ D _ _ HF4.out HR4.out rfl).mono ?_
      rintro e w5 ⟨rfl, hbel5, hrd5⟩
      rw [hentA.out] at hrd5
      have HL35 := hide (HL34.out.trans hbel5)
      have HL5 := hide (HL3.out.trans (HL35.out.mono HL3.out.size))
      have HB5 := hide (HB3.out.later HL35.out HB3.out.lo)
      have HR5 := hide hrd5
      clear hbel5 hrd5
      go_wp2_with fail
      refine (zzClone_any b2 _ B _ hlb (Bs.bo HB5.out)).mono ?_
      rintro e w6 ⟨b6, rfl, hb6, hbel6⟩
      have HC6 := hide hb6
      have HL6 := hide (below_step HL5.out hbel6 (Nat.le_refl _))
      have HB6 := hide (HB5.out.later hbel6 HB5.out.lo)
      have HR6 := hide (HR5.out.later hbel6 (Nat.le_refl _))
      clear hb6 hbel6
      go_wp2_with fail
      refine (newReader_rd b6 _ B _ hlb HC6.out).mono ?_
      rintro e w7 ⟨rfl, hbel7, hrd7⟩
      have HL67 := hide hbel7
      have HL7 := hide (below_step HL6.out hbel7 (Nat.le_refl _))
      have HR7 := hide hrd7
      clear hbel7 hrd7
      have HF7 := hide (show F.answers w7.tape by rw [HL7.out.tape]; exact hF)
      go_wp2_with fail
      refine (enter_rd F _ B _ _ HF7.out HR7.out rfl).mono ?_
      rintro e w8 ⟨rfl, hbel8, hrd8⟩
      rw [hentB.out] at hrd8
      have HL68 := hide (HL67.out.trans hbel8)
      have HL8 := hide (HL6.out.trans (HL68.out.mono HL6.out.size))
      have HB8 := hide (HB6.out.later HL68.out HB6.out.lo)
      have HR1 := hide (HR6.out.later HL68.out (Nat.le_refl _))
      have HR2 := hide hrd8
      clear hbel8 hrd8
      go_wp2_with fail
      refine (offset_rd _ D _ _ HR1.out).mono ?_
      rintro e w' ⟨rfl, hw⟩
      obtain rfl := hw.symm
      clear hw
      go_wp2_with fail
      refine (offset_rd _ B _ _ HR2.out).mono ?_
      rintro e w' ⟨rfl, hw⟩
      obtain rfl := hw.symm
      clear hw
      go_wp2_with fail
      go_quiet ((first | (go_at_call_of 13 w3.heap.size; exact Calls.quiet_of_same (zzErr_rd_nil _ D _ _ HR1.out.drewN rfl)) | (go_at_call_of 13 w6.heap.size; exact Calls.quiet_of_same (zzErr_rd_nil _ B _ _ HR2.out.drewN rfl)) | (go_at_call_of 19 w3.heap.size; exact Calls.quiet_of_same (zzDepth_rd _ D _ _ HR1.out.drewN)) | (go_at_call_of 19 w6.heap.size; exact Calls.quiet_of_same (zzDepth_rd _ B _ _ HR2.out.drewN))))
      go_wp2_with fail
      go_loop [8] (fun i => ∃ k : Nat, k ≤ B.length ∧ i = .int .i64 k ∧ Hid (skip B k = p)) (fun i => B.length - (intOf i).toNat)
      case atStart => exact ⟨0, Nat.zero_le _, rfl, hp⟩
      case round =>
        obtain ⟨k, hk, rfl, hs⟩ := hrel
        by_cases hlt : k < B.length
        · obtain ⟨db, rfl, hcl⟩ := HB8.out.cell hlt
          by_cases hsp : spB (pk B k) = true
          · have hst : Hid (skip B (k + 1) = p) := (skip_step hlt hsp).symm.trans hs.out
            go_wp2_with (first | (go_at_call 16; refine (zzIsSpace_any _ _).mono ?_; rintro e w' ⟨rfl, hw⟩; obtain rfl := hw.symm; clear hw) | fail)
            go_round
            case rel => first | exact ⟨k + 1, by omega, by go_num, hst⟩ | (refine ⟨trivial, ?_⟩; (repeat apply Exists.intro); refine ⟨?_, rfl⟩; exact ⟨k + 1, by omega, by go_num, hst⟩)
            case measure => simp [intOf]; omega
          · have hst : k = p := (skip_stop (fun h => hsp h.2)).symm.trans hs.out
            have hsp' : spB (pk B k) = false := by simpa using hsp
            clear hsp
            obtain rfl := hst.symm
            clear hst
            go_wp2_with (first | (go_at_call 16; refine (zzIsSpace_any _ _).mono ?_; rintro e w' ⟨rfl, hw⟩; obtain rfl := hw.symm; clear hw) | fail)
            refine (zzCloser_any _ _).mono ?_
            rintro e w' ⟨rfl, hw⟩
            obtain rfl := hw.symm
            clear hw
            simp only [hcz.out]
            go_wp2_with fail
            refine (offset_rd _ B _ _ HR2.out.drewN).mono ?_
            rintro e w' ⟨rfl, hw⟩
            obtain rfl := hw.symm
            clear hw
            go_wp2_with fail
            refine (zzErr_rd_nil _ B _ _ HR2.out.drewN rfl).mono ?_
            rintro e w' ⟨rfl, hw⟩
            obtain rfl := hw.symm
            clear hw
            go_wp2_with fail
            refine (zzDepth_rd _ B _ _ HR2.out.drewN).mono ?_
            rintro e w' ⟨rfl, hw⟩
            obtain rfl := hw.symm
            clear hw
            go_wp2_with fail
            refine (zzLevelEnd_rd _ B _ 0 (e, false) _ HR2.out.drewN rfl).mono ?_
            rintro e w' ⟨rfl, hw⟩
            obtain rfl := hw.symm
            clear hw
            go_wp2_with fail
            refine (zzLevelEnd_rd _ D _ 0 (e, false) _ HR1.out.drewN rfl).mono ?_
            rintro e w' ⟨rfl, hw⟩
            obtain rfl := hw.symm
            clear hw
            go_wp2_with fail
            refine (zzLevelItems_rd _ B _ 0 (e, false) _ HR2.out.drewN rfl).mono ?_
            rintro e w' ⟨rfl, hw⟩
            obtain rfl := hw.symm
            clear hw
            go_wp2
            go_ret
            exact ⟨rfl, belowDrewN HL8.out⟩
        · have hst : k = p := (skip_stop (fun h => hlt h.1)).symm.trans hs.out
          exfalso; omega

set_option maxRecDepth 100000 in
set_option maxHeartbeats 8000000 in
theorem skips_in123 (F : Interp) (a b : Option Addr) (ca cb : Nat) (A B : List Int) (w : World) (hF : F.answers w.tape) (hlen : A.length + B.length ≤ 1048576) (ha : Hid (Bo w a A)) (hb : Hid (Bo w b B)) (D : List Int) (hD : Hid (A ++ B = D)) (p : Nat) (hp : Hid (skip B 0 = p))
    (e : Int) (hcz : Hid (closer (pk B p) = e)) (hpl : p < B.length) (hentA : Hid (enter D ⟨0, false, []⟩ = ⟨A.length + (p + 1), false, [(e, false)]⟩)) (hentB : Hid (enter B ⟨0, false, []⟩ = ⟨p + 1, false, [(e, false)]⟩)) (h91 : (pk B p == 91) = false) (h123 : (pk B p == 123) = true) :
    Calls Tryf.prog 5 #[.slice a A.length ca, .slice b B.length cb] w fun e w' => e = .returned (.bool true) ∧ Below w.heap.size w w' := by
  go_enter Tryf.func5, Tryf.ntmps5
  go_wp2_with (go_at_call 22; refine (zzBytes22_yes _ _ _ _ _ _ _ hlen).mono ?_; rintro e w' ⟨rfl, hw⟩; obtain rfl := hw.symm; clear hw)
  go_loop [5] (fun i => ∃ k : Nat, k ≤ A.length ∧ i = .int .i64 k ∧ Hid (∀ j, j < k → spB (pk A j) = true)) (fun i => A.length - (intOf i).toNat)
  case atStart => exact ⟨0, Nat.zero_le _, rfl, fun j hj => by omega⟩
  case round =>
    obtain ⟨k, hk, rfl, hs⟩ := hrel
    by_cases hlt : k < A.length
    · obtain ⟨b0, o0, rfl, hcl⟩ := ha.out.2 k hlt
      by_cases hsp : spB (pk A k) = true
      · have hs' : Hid (∀ j, j < k + 1 → spB (pk A j) = true) := fun j hj => by
          by_cases e : j = k
          · rw [e]; exact hsp
          · exact hs.out j (by omega)
        go_wp2_with (first | (go_at_call 16; refine (zzIsSpace_any _ _).mono ?_; rintro e w' ⟨rfl, hw⟩; obtain rfl := hw.symm; clear hw) | fail)
        go_round
        case rel => exact ⟨k + 1, by omega, by go_num, hs'⟩
        case measure => simp [intOf]; omega
      · have hsp' : spB (pk A k) = false := by simpa using hsp
        clear hsp
        go_wp2_with (first | (go_at_call 16; refine (zzIsSpace_any _ _).mono ?_; rintro e w' ⟨rfl, hw⟩; obtain rfl := hw.symm; clear hw) | fail)
        go_ret
        exact ⟨rfl, Below.refl _ _⟩
    · obtain rfl : A.length = k := by omega
      have hla : A.length ≤ 1048576 := by omega
      have hlb : B.length ≤ 1048576 := by omega
      have hlab : D.length ≤ 1048576 := by rw [← hD.out, List.length_append]; exact hlen
      have HLAB := hide hlab
      clear hlab
      go_wp2_with fail
      refine (zzClone_any a ca A _ hla ha).mono ?_
      rintro e w1 ⟨a1, rfl, hb1, hbel1⟩
      have HA1 := hide hb1
      have HL1 := hide hbel1
      have HBo1 := hide (hb.out.later hbel1)
      clear hb1 hbel1
      go_wp2_with fail
      refine (zzClone_any b cb B _ hlb HBo1).mono ?_
      rintro e w2 ⟨b2, rfl, hb2, hbel2⟩
      have HB2 := hide hb2
      have HL2 := hide (below_step HL1.out hbel2 (Nat.le_refl _))
      have HA2 := hide (HA1.out.later hbel2 HA1.out.lo)
      clear hb2 hbel2
      go_wp2_with fail
      refine (zzJoin_any a1 b2 _ _ A B _ hlen HA2 HB2).mono ?_
      rintro e w3 ⟨j3, rfl, hb3, hbel3⟩
      rw [hD.out] at hb3 ⊢
      have HJ3 := hide hb3
      have HL3 := hide (below_step HL2.out hbel3 (Nat.le_refl _))
      have HB3 := hide (HB2.out.later hbel3 HB2.out.lo)
      clear hb3 hbel3
      go_wp2_with fail
      refine (newReader_rd j3 _ D _ HLAB.out HJ3.out).mono ?_
      rintro e w4 ⟨rfl, hbel4, hrd4⟩
      have HL34 := hide hbel4
      have HL4 := hide (below_step HL3.out hbel4 (Nat.le_refl _))
      have HR4 := hide hrd4
      clear hbel4 hrd4
      have HF4 := hide (show F.answers w4.tape by rw [HL4.out.tape]; exact hF)
      go_wp2_with fail
      refine (enter_rd F _ D _ _ HF4.out HR4.out rfl).mono ?_
      rintro e w5 ⟨rfl, hbel5, hrd5⟩
      rw [hentA.out] at hrd5
      have HL35 := hide (HL34.out.trans hbel5)
      have HL5 := hide (HL3.out.trans (HL35.out.mono HL3.out.size))
      have HB5 := hide (HB3.out.later HL35.out HB3.out.lo)
      have HR5 := hide hrd5
      clear hbel5 hrd5
      go_wp2_with fail
      refine (zzClone_any b2 _ B _ hlb (Bs.bo HB5.out)).mono ?_
      rintro e w6 ⟨b6, rfl, hb6, hbel6⟩
      have HC6 := hide hb6
      have HL6 := hide (below_step HL5.out hbel6 (Nat.le_refl _))
      have HB6 := hide (HB5.out.later hbel6 HB5.out.lo)
      have HR6 := hide (HR5.out.later hbel6 (Nat.le_refl _))
      clear hb6 hbel6
      go_wp2_with fail
      refine (newReader_rd b6 _ B _ hlb HC6.out).mono ?_
      rintro e w7 ⟨rfl, hbel7, hrd7⟩
      have HL67 := hide hbel7
      have HL7 := hide (below_step HL6.out hbel7 (Nat.le_refl _))
      have HR7 := hide hrd7
      clear hbel7 hrd7
      have HF7 := hide (show F.answers w7.tape by rw [HL7.out.tape]; exact hF)
      go_wp2_with fail
      refine (enter_rd F _ B _ _ HF7.out HR7.out rfl).mono ?_
      rintro e w8 ⟨rfl, hbel8, hrd8⟩
      rw [hentB.out] at hrd8
      have HL68 := hide (HL67.out.trans hbel8)
      have HL8 := hide (HL6.out.trans (HL68.out.mono HL6.out.size))
      have HB8 := hide (HB6.out.later HL68.out HB6.out.lo)
      have HR1 := hide (HR6.out.later HL68.out (Nat.le_refl _))
      have HR2 := hide hrd8
      clear hbel8 hrd8
      go_wp2_with fail
      refine (offset_rd _ D _ _ HR1.out).mono ?_
      rintro e w' ⟨rfl, hw⟩
      obtain rfl := hw.symm
      clear hw
      go_wp2_with fail
      refine (offset_rd _ B _ _ HR2.out).mono ?_
      rintro e w' ⟨rfl, hw⟩
      obtain rfl := hw.symm
      clear hw
      go_wp2_with fail
      go_quiet ((first | (go_at_call_of 13 w3.heap.size; exact Calls.quiet_of_same (zzErr_rd_nil _ D _ _ HR1.out.drewN rfl)) | (go_at_call_of 13 w6.heap.size; exact Calls.quiet_of_same (zzErr_rd_nil _ B _ _ HR2.out.drewN rfl)) | (go_at_call_of 19 w3.heap.size; exact Calls.quiet_of_same (zzDepth_rd _ D _ _ HR1.out.drewN)) | (go_at_call_of 19 w6.heap.size; exact Calls.quiet_of_same (zzDepth_rd _ B _ _ HR2.out.drewN))))
      go_wp2_with fail
      go_loop [8] (fun i => ∃ k : Nat, k ≤ B.length ∧ i = .int .i64 k ∧ Hid (skip B k = p)) (fun i => B.length - (intOf i).toNat)
      case atStart => exact ⟨0, Nat.zero_le _, rfl, hp⟩
      case round =>
        obtain ⟨k, hk, rfl, hs⟩ := hrel
        by_cases hlt : k < B.length
        · obtain ⟨db, rfl, hcl⟩ := HB8.out.cell hlt
          by_cases hsp : spB (pk B k) = true
          · have hst : Hid (skip B (k + 1) = p) := (skip_step hlt hsp).symm.trans hs.out
            go_wp2_with (first | (go_at_call 16; refine (zzIsSpace_any _ _).mono ?_; rintro e w' ⟨rfl, hw⟩; obtain rfl := hw.symm; clear hw) | fail)
            go_round
            case rel => first | exact ⟨k + 1, by omega, by go_num, hst⟩ | (refine ⟨trivial, ?_⟩; (repeat apply Exists.intro); refine ⟨?_, rfl⟩; exact ⟨k + 1, by omega, by go_num, hst⟩)
            case measure => simp [intOf]; omega
          · have hst : k = p := (skip_stop (fun h => hsp h.2)).symm.trans hs.out
            have hsp' : spB (pk B k) = false := by simpa using hsp
            clear hsp
            obtain rfl := hst.symm
            clear hst
            go_wp2_with (first | (go_at_call 16; refine (zzIsSpace_any _ _).mono ?_; rintro e w' ⟨rfl, hw⟩; obtain rfl := hw.symm; clear hw) | fail)
            refine (zzCloser_any _ _).mono ?_
            rintro e w' ⟨rfl, hw⟩
            obtain rfl := hw.symm
            clear hw
            simp only [hcz.out]
            go_wp2_with fail
            refine (offset_rd _ B _ _ HR2.out.drewN).mono ?_
            rintro e w' ⟨rfl, hw⟩
            obtain rfl := hw.symm
            clear hw
            go_wp2_with fail
            refine (zzErr_rd_nil _ B _ _ HR2.out.drewN rfl).mono ?_
            rintro e w' ⟨rfl, hw⟩
            obtain rfl := hw.symm
            clear hw
            go_wp2_with fail
            refine (zzDepth_rd _ B _ _ HR2.out.drewN).mono ?_
            rintro e w' ⟨rfl, hw⟩
            obtain rfl := hw.symm
            clear hw
            go_wp2_with fail
            refine (zzLevelEnd_rd _ B _ 0 (e, false) _ HR2.out.drewN rfl).mono ?_
            rintro e w' ⟨rfl, hw⟩
            obtain rfl := hw.symm
            clear hw
            go_wp2_with fail
            refine (zzLevelEnd_rd _ D _ 0 (e, false) _ HR1.out.drewN rfl).mono ?_
            rintro e w' ⟨rfl, hw⟩
            obtain rfl := hw.symm
            clear hw
            go_wp2_with fail
            refine (zzLevelItems_rd _ B _ 0 (e, false) _ HR2.out.drewN rfl).mono ?_
            rintro e w' ⟨rfl, hw⟩
            obtain rfl := hw.symm
            clear hw
            go_wp2
            go_ret
            exact ⟨rfl, belowDrewN HL8.out⟩
        · have hst : k = p := (skip_stop (fun h => hlt h.1)).symm.trans hs.out
          exfalso; omega

set_option maxRecDepth 100000 in
set_option maxHeartbeats 8000000 in
theorem skips_outin (F : Interp) (a b : Option Addr) (ca cb : Nat) (A B : List Int) (w : World) (hF : F.answers w.tape) (hlen : A.length + B.length ≤ 1048576) (ha : Hid (Bo w a A)) (hb : Hid (Bo w b B)) (D : List Int) (hD : Hid (A ++ B = D)) (p : Nat) (hp : Hid (skip B 0 = p))
    (hentA : Hid (enter D ⟨0, false, []⟩ = ⟨A.length + p, true, []⟩)) (hentB : Hid (enter B ⟨0, false, []⟩ = ⟨p, true, []⟩)) (hpl : p < B.length) (h91 : (pk B p == 91) = false) (h123 : (pk B p == 123) = false) :
    Calls Tryf.prog 5 #[.slice a A.length ca, .slice b B.length cb] w fun e w' => e = .returned (.bool true) ∧ Below w.heap.size w w' := by
  go_enter Tryf.func5, Tryf.ntmps5
  go_wp2_with (go_at_call 22; refine (zzBytes22_yes _ _ _ _ _ _ _ hlen).mono ?_; rintro e w' ⟨rfl, hw⟩; obtain rfl := hw.symm; clear hw)
  go_loop [5] (fun i => ∃ k : Nat, k ≤ A.length ∧ i = .int .i64 k ∧ Hid (∀ j, j < k → spB (pk A j) = true)) (fun i => A.length - (intOf i).toNat)
  case atStart => exact ⟨0, Nat.zero_le _, rfl, fun j hj => by omega⟩
  case round =>
    obtain ⟨k, hk, rfl, hs⟩ := hrel
    by_cases hlt : k < A.length
    · obtain ⟨b0, o0, rfl, hcl⟩ := ha.out.2 k hlt
      by_cases hsp : spB (pk A k) = true
      · have hs' : Hid (∀ j, j < k + 1 → spB (pk A j) = true) := fun j hj => by
          by_cases e : j = k
          · rw [e]; exact hsp
          · exact hs.out j (by omega)
        go_wp2_with (first | (go_at_call 16; refine (zzIsSpace_any _ _).mono ?_; rintro e w' ⟨rfl, hw⟩; obtain rfl := hw.symm; clear hw) | fail)
        go_round
        case rel => exact ⟨k + 1, by omega, by go_num, hs'⟩
        case measure => simp [intOf]; omega
      · have hsp' : spB (pk A k) = false := by simpa using hsp
        clear hsp
        go_wp2_with (first | (go_at_call 16; refine (zzIsSpace_any _ _).mono ?_; rintro e w' ⟨rfl, hw⟩; obtain rfl := hw.symm; clear hw) | fail)
        go_ret
        exact ⟨rfl, Below.refl _ _⟩
    · obtain rfl : A.length = k := by omega
      have hla : A.length ≤ 1048576 := by omega
      have hlb : B.length ≤ 1048576 := by omega
      have hlab : D.length ≤ 1048576 := by rw [← hD.out, List.length_append]; exact hlen
      have HLAB := hide hlab
      clear hlab
      go_wp2_with fail
      refine (zzClone_any a ca A _ hla ha).mono ?_
      rintro e w1 ⟨a1, rfl, hb1, hbel1⟩
      have HA1 := hide hb1
      have HL1 := hide hbel1
      have HBo1 := hide (hb.out.later hbel1)
      clear hb1 hbel1
      go_wp2_with fail
      refine (zzClone_any b cb B _ hlb HBo1).mono ?_
      rintro e w2 ⟨b2, rfl, hb2, hbel2⟩
      have HB2 := hide hb2
      have HL2 := hide (below_step HL1.out hbel2 (Nat.le_refl _))
      have HA2 := hide (HA1.out.later hbel2 HA1.out.lo)
      clear hb2 hbel2
      go_wp2_with fail
      refine (zzJoin_any a1 b2 _ _ A B _ hlen HA2 HB2).mono ?_
      rintro e w3 ⟨j3, rfl, hb3, hbel3⟩
      rw [hD.out] at hb3 ⊢
      have HJ3 := hide hb3
      have HL3 := hide (below_step HL2.out hbel3 (Nat.le_refl _))
      have HB3 := hide (HB2.out.later hbel3 HB2.out.lo)
      clear hb3 hbel3
      go_wp2_with fail
      refine (newReader_rd j3 _ D _ HLAB.out HJ3.out).mono ?_
      rintro e w4 ⟨rfl, hbel4, hrd4⟩
      have HL34 := hide hbel4
      have HL4 := hide (below_step HL3.out hbel4 (Nat.le_refl _))
      have HR4 := hide hrd4
      clear hbel4 hrd4
      have HF4 := hide (show F.answers w4.tape by rw [HL4.out.tape]; exact hF)
      go_wp2_with fail
      refine (enter_rd F _ D _ _ HF4.out HR4.out rfl).mono ?_
      rintro e w5 ⟨rfl, hbel5, hrd5⟩
      rw [hentA.out] at hrd5
      have HL35 := hide (HL34.out.trans hbel5)
      have HL5 := hide (HL3.out.trans (HL35.out.mono HL3.out.size))
      have HB5 := hide (HB3.out.later HL35.out HB3.out.lo)
      have HR5 := hide hrd5
      clear hbel5 hrd5
      go_wp2_with fail
      refine (zzClone_any b2 _ B _ hlb (Bs.bo HB5.out)).mono ?_
      rintro e w6 ⟨b6, rfl, hb6, hbel6⟩
      have HC6 := hide hb6
      have HL6 := hide (below_step HL5.out hbel6 (Nat.le_refl _))
      have HB6 := hide (HB5.out.later hbel6 HB5.out.lo)
      have HR6 := hide (HR5.out.later hbel6 (Nat.le_refl _))
      clear hb6 hbel6
      go_wp2_with fail
      refine (newReader_rd b6 _ B _ hlb HC6.out).mono ?_
      rintro e w7 ⟨rfl, hbel7, hrd7⟩
      have HL67 := hide hbel7
      have HL7 := hide (below_step HL6.out hbel7 (Nat.le_refl _))
      have HR7 := hide hrd7
      clear hbel7 hrd7
      have HF7 := hide (show F.answers w7.tape by rw [HL7.out.tape]; exact hF)
      go_wp2_with fail
      refine (enter_rd F _ B _ _ HF7.out HR7.out rfl).mono ?_
      rintro e w8 ⟨rfl, hbel8, hrd8⟩
      rw [hentB.out] at hrd8
      have HL68 := hide (HL67.out.trans hbel8)
      have HL8 := hide (HL6.out.trans (HL68.out.mono HL6.out.size))
      have HB8 := hide (HB6.out.later HL68.out HB6.out.lo)
      have HR1 := hide (HR6.out.later HL68.out (Nat.le_refl _))
      have HR2 := hide hrd8
      clear hbel8 hrd8
      go_wp2_with fail
      refine (offset_rd _ D _ _ HR1.out).mono ?_
      rintro e w' ⟨rfl, hw⟩
      obtain rfl := hw.symm
      clear hw
      go_wp2_with fail
      refine (offset_rd _ B _ _ HR2.out).mono ?_
      rintro e w' ⟨rfl, hw⟩
      obtain rfl := hw.symm
      clear hw
      obtain ⟨v1, hv1⟩ := HR1.out.err_cell rfl
      obtain ⟨v2, hv2⟩ := HR2.out.err_cell rfl
      go_wp2_with fail
      go_quiet ((first | (go_at_call_of 13 w3.heap.size; exact Calls.quiet_of_same (zzErr_some _ 62 v1 _ hv1)) | (go_at_call_of 13 w6.heap.size; exact Calls.quiet_of_same (zzErr_some _ 62 v2 _ hv2)) | (go_at_call_of 19 w3.heap.size; exact Calls.quiet_of_same (zzDepth_rd _ D _ _ HR1.out.drewN)) | (go_at_call_of 19 w6.heap.size; exact Calls.quiet_of_same (zzDepth_rd _ B _ _ HR2.out.drewN))))
      go_wp2_with fail
      go_loop [8] (fun i => ∃ k : Nat, k ≤ B.length ∧ i = .int .i64 k ∧ Hid (skip B k = p)) (fun i => B.length - (intOf i).toNat)
      case atStart => exact ⟨0, Nat.zero_le _, rfl, hp⟩
      case round =>
        obtain ⟨k, hk, rfl, hs⟩ := hrel
        by_cases hlt : k < B.length
        · obtain ⟨db, rfl, hcl⟩ := HB8.out.cell hlt
          by_cases hsp : spB (pk B k) = true
          · have hst : Hid (skip B (k + 1) = p) := (skip_step hlt hsp).symm.trans hs.out
            go_wp2_with (first | (go_at_call 16; refine (zzIsSpace_any _ _).mono ?_; rintro e w' ⟨rfl, hw⟩; obtain rfl := hw.symm; clear hw) | fail)
            go_round
            case rel => first | exact ⟨k + 1, by omega, by go_num, hst⟩ | (refine ⟨trivial, ?_⟩; (repeat apply Exists.intro); refine ⟨?_, rfl⟩; exact ⟨k + 1, by omega, by go_num, hst⟩)
            case measure => simp [intOf]; omega
          · have hst : k = p := (skip_stop (fun h => hsp h.2)).symm.trans hs.out
            have hsp' : spB (pk B k) = false := by simpa using hsp
            clear hsp
            obtain rfl := hst.symm
            clear hst
            go_wp2_with (first | (go_at_call 16; refine (zzIsSpace_any _ _).mono ?_; rintro e w' ⟨rfl, hw⟩; obtain rfl := hw.symm; clear hw) | fail)
            refine (offset_rd _ B _ _ HR2.out.drewN).mono ?_
            rintro e w' ⟨rfl, hw⟩
            obtain rfl := hw.symm
            clear hw
            go_wp2_with fail
            refine (zzErr_rd_some _ B _ _ HR2.out.drewN rfl).mono ?_
            rintro e w' ⟨v3, rfl, hw⟩
            obtain rfl := hw.symm
            clear hw
            go_wp2_with fail
            refine (zzDepth_rd _ B _ _ HR2.out.drewN).mono ?_
            rintro e w' ⟨rfl, hw⟩
            obtain rfl := hw.symm
            clear hw
            go_wp2
            go_ret
            exact ⟨rfl, belowDrewN HL8.out⟩
        · have hst : k = p := (skip_stop (fun h => hlt h.1)).symm.trans hs.out
          exfalso; omega

set_option maxRecDepth 100000 in
set_option maxHeartbeats 8000000 in
theorem skips_outend (F : Interp) (a b : Option Addr) (ca cb : Nat) (A B : List Int) (w : World) (hF : F.answers w.tape) (hlen : A.length + B.length ≤ 1048576) (ha : Hid (Bo w a A)) (hb : Hid (Bo w b B)) (D : List Int) (hD : Hid (A ++ B = D)) (p : Nat) (hp : Hid (skip B 0 = p))
    (hentA : Hid (enter D ⟨0, false, []⟩ = ⟨A.length + p, true, []⟩)) (hentB : Hid (enter B ⟨0, false, []⟩ = ⟨p, true, []⟩)) (hpl : ¬ p < B.length) (hpl2 : p ≤ B.length) :
    Calls Tryf.prog 5 #[.slice a A.length ca, .slice b B.length cb] w fun e w' => e = .returned (.bool true) ∧ Below w.heap.size w w' := by
  go_enter Tryf.func5, Tryf.ntmps5
  go_wp2_with (go_at_call 22; refine (zzBytes22_yes _ _ _ _ _ _ _ hlen).mono ?_; rintro e w' ⟨rfl, hw⟩; obtain rfl := hw.symm; clear hw)
  go_loop [5] (fun i => ∃ k : Nat, k ≤ A.length ∧ i = .int .i64 k ∧ Hid (∀ j, j < k → spB (pk A j) = true)) (fun i => A.length - (intOf i).toNat)
  case atStart => exact ⟨0, Nat.zero_le _, rfl, fun j hj => by omega⟩
  case round =>
    obtain ⟨k, hk, rfl, hs⟩ := hrel
    by_cases hlt : k < A.length
    · obtain ⟨b0, o0, rfl, hcl⟩ := ha.out.2 k hlt
      by_cases hsp : spB (pk A k) = true
      · have hs' : Hid (∀ j, j < k + 1 → spB (pk A j) = true) := fun j hj => by
          by_cases e : j = k
          · rw [e]; exact hsp
          · exact hs.out j (by omega)
        go_wp2_with (first | (go_at_call 16; refine (zzIsSpace_any _ _).mono ?_; rintro e w' ⟨rfl, hw⟩; obtain rfl := hw.symm; clear hw) | fail)
        go_round
        case rel => exact ⟨k + 1, by omega, by go_num, hs'⟩
        case measure => simp [intOf]; omega
      · have hsp' : spB (pk A k) = false := by simpa using hsp
        clear hsp
        go_wp2_with (first | (go_at_call 16; refine (zzIsSpace_any _ _).mono ?_; rintro e w' ⟨rfl, hw⟩; obtain rfl := hw.symm; clear hw) | fail)
        go_ret
        exact ⟨rfl, Below.refl _ _⟩
    · obtain rfl : A.length = k := by omega
      have hla : A.length ≤ 1048576 := by omega
      have hlb : B.length ≤ 1048576 := by omega
      have hlab : D.length ≤ 1048576 := by rw [← hD.out, List.length_append]; exact hlen
      have HLAB := hide hlab
      clear hlab
      go_wp2_with fail
      refine (zzClone_any a ca A _ hla ha).mono ?_
      rintro e w1 ⟨a1, rfl, hb1, hbel1⟩
      have HA1 := hide hb1
      have HL1 := hide hbel1
      have HBo1 := hide (hb.out.later hbel1)
      clear hb1 hbel1
      go_wp2_with fail
      refine (zzClone_any b cb B _ hlb HBo1).mono ?_
      rintro e w2 ⟨b2, rfl, hb2, hbel2⟩
      have HB2 := hide hb2
      have HL2 := hide (below_step HL1.out hbel2 (Nat.le_refl _))
      have HA2 := hide (HA1.out.later hbel2 HA1.out.lo)
      clear hb2 hbel2
      go_wp2_with fail
      refine (zzJoin_any a1 b2 _ _ A B _ hlen HA2 HB2).mono ?_
      rintro e w3 ⟨j3, rfl, hb3, hbel3⟩
      rw [hD.out] at hb3 ⊢
      have HJ3 := hide hb3
      have HL3 := hide (below_step HL2.out hbel3 (Nat.le_refl _))
      have HB3 := hide (HB2.out.later hbel3 HB2.out.lo)
      clear hb3 hbel3
      go_wp2_with fail
      refine (newReader_rd j3 _ D _ HLAB.out HJ3.out).mono ?_
      rintro e w4 ⟨rfl, hbel4, hrd4⟩
      have HL34 := hide hbel4
      have HL4 := hide (below_step HL3.out hbel4 (Nat.le_refl _))
      have HR4 := hide hrd4
      clear hbel4 hrd4
      have HF4 := hide (show F.answers w4.tape by rw [HL4.out.tape]; exact hF)
      go_wp2_with fail
      refine (enter_rd F _ D _ _ HF4.out HR4.out rfl).mono ?_
      rintro e w5 ⟨rfl, hbel5, hrd5⟩
      rw [hentA.out] at hrd5
      have HL35 := hide (HL34.out.trans hbel5)
      have HL5 := hide (HL3.out.trans (HL35.out.mono HL3.out.size))
      have HB5 := hide (HB3.out.later HL35.out HB3.out.lo)
      have HR5 := hide hrd5
      clear hbel5 hrd5
      go_wp2_with fail
      refine (zzClone_any b2 _ B _ hlb (Bs.bo HB5.out)).mono ?_
      rintro e w6 ⟨b6, rfl, hb6, hbel6⟩
      have HC6 := hide hb6
      have HL6 := hide (below_step HL5.out hbel6 (Nat.le_refl _))
      have HB6 := hide (HB5.out.later hbel6 HB5.out.lo)
      have HR6 := hide (HR5.out.later hbel6 (Nat.le_refl _))
      clear hb6 hbel6
      go_wp2_with fail
      refine (newReader_rd b6 _ B _ hlb HC6.out).mono ?_
      rintro e w7 ⟨rfl, hbel7, hrd7⟩
      have HL67 := hide hbel7
      have HL7 := hide (below_step HL6.out hbel7 (Nat.le_refl _))
      have HR7 := hide hrd7
      clear hbel7 hrd7
      have HF7 := hide (show F.answers w7.tape by rw [HL7.out.tape]; exact hF)
      go_wp2_with fail
      refine (enter_rd F _ B _ _ HF7.out HR7.out rfl).mono ?_
      rintro e w8 ⟨rfl, hbel8, hrd8⟩
      rw [hentB.out] at hrd8
      have HL68 := hide (HL67.out.trans hbel8)
      have HL8 := hide (HL6.out.trans (HL68.out.mono HL6.out.size))
      have HB8 := hide (HB6.out.later HL68.out HB6.out.lo)
      have HR1 := hide (HR6.out.later HL68.out (Nat.le_refl _))
      have HR2 := hide hrd8
      clear hbel8 hrd8
      go_wp2_with fail
      refine (offset_rd _ D _ _ HR1.out).mono ?_
      rintro e w' ⟨rfl, hw⟩
      obtain rfl := hw.symm
      clear hw
      go_wp2_with fail
      refine (offset_rd _ B _ _ HR2.out).mono ?_
      rintro e w' ⟨rfl, hw⟩
      obtain rfl := hw.symm
      clear hw
      obtain ⟨v1, hv1⟩ := HR1.out.err_cell rfl
      obtain ⟨v2, hv2⟩ := HR2.out.err_cell rfl
      go_wp2_with fail
      go_quiet ((first | (go_at_call_of 13 w3.heap.size; exact Calls.quiet_of_same (zzErr_some _ 62 v1 _ hv1)) | (go_at_call_of 13 w6.heap.size; exact Calls.quiet_of_same (zzErr_some _ 62 v2 _ hv2)) | (go_at_call_of 19 w3.heap.size; exact Calls.quiet_of_same (zzDepth_rd _ D _ _ HR1.out.drewN)) | (go_at_call_of 19 w6.heap.size; exact Calls.quiet_of_same (zzDepth_rd _ B _ _ HR2.out.drewN))))
      go_wp2_with fail
      go_loop [8] (fun i => ∃ k : Nat, k ≤ B.length ∧ i = .int .i64 k ∧ Hid (skip B k = p)) (fun i => B.length - (intOf i).toNat)
      case atStart => exact ⟨0, Nat.zero_le _, rfl, hp⟩
      case round =>
        obtain ⟨k, hk, rfl, hs⟩ := hrel
        by_cases hlt : k < B.length
        · obtain ⟨db, rfl, hcl⟩ := HB8.out.cell hlt
          by_cases hsp : spB (pk B k) = true
          · have hst : Hid (skip B (k + 1) = p) := (skip_step hlt hsp).symm.trans hs.out
            go_wp2_with (first | (go_at_call 16; refine (zzIsSpace_any _ _).mono ?_; rintro e w' ⟨rfl, hw⟩; obtain rfl := hw.symm; clear hw) | fail)
            go_round
            case rel => first | exact ⟨k + 1, by omega, by go_num, hst⟩ | (refine ⟨trivial, ?_⟩; (repeat apply Exists.intro); refine ⟨?_, rfl⟩; exact ⟨k + 1, by omega, by go_num, hst⟩)
            case measure => simp [intOf]; omega
          · have hst : k = p := (skip_stop (fun h => hsp h.2)).symm.trans hs.out
            have hsp' : spB (pk B k) = false := by simpa using hsp
            clear hsp
            exfalso; omega
        · have hst : k = p := (skip_stop (fun h => hlt h.1)).symm.trans hs.out
          obtain rfl := hst.symm
          clear hst
          go_wp2_with (first | (go_at_call 16; refine (zzIsSpace_any _ _).mono ?_; rintro e w' ⟨rfl, hw⟩; obtain rfl := hw.symm; clear hw) | fail)
          refine (offset_rd _ B _ _ HR2.out.drewN).mono ?_
          rintro e w' ⟨rfl, hw⟩
          obtain rfl := hw.symm
          clear hw
          go_wp2_with fail
          refine (zzErr_rd_some _ B _ _ HR2.out.drewN rfl).mono ?_
          rintro e w' ⟨v3, rfl, hw⟩
          obtain rfl := hw.symm
          clear hw
          go_wp2_with fail
          refine (zzDepth_rd _ B _ _ HR2.out.drewN).mono ?_
          rintro e w' ⟨rfl, hw⟩
          obtain rfl := hw.symm
          clear hw
          go_wp2
          go_ret
          exact ⟨rfl, belowDrewN HL8.out⟩

end Go.Proofs.Qxb6616904aFmt
