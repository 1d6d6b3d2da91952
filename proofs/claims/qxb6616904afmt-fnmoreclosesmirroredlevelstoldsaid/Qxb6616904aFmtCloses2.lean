import Derived.Test.Qxb6616904aFmtCloses
namespace Go.Proofs.Qxb6616904aFmt
set_option linter.unusedVariables false
set_option linter.unusedSimpArgs false
open Go.RowKit Go.Extern.Stop Go.Stop Go.Extern

theorem belowDrewN {B n : Nat} {w w' : World} (h : Below B w w') : Below B w (w'.drewN n) := ⟨h.os, h.tape, h.output, h.size, h.block⟩
theorem Rd.drewN {w : World} {rb n : Nat} {D : List Int} {s : RS} (h : Rd w rb D s) : Rd (w.drewN n) rb D s := h.later (belowDrewN (Below.refl w.heap.size w)) (Nat.le_refl _)

set_option maxRecDepth 100000 in
set_option maxHeartbeats 16000000 in
theorem closes_main1 (F : Interp) (a : Option Addr) (c : Nat) (D : List Int) (n S P K : Nat) (w : World) (hF : F.answers w.tape) (hlen : D.length ≤ 1048576) (hb : Hid (Bo w a D)) (hn : Hid ((oE D).length = n)) (hS : Hid (oS D = S))
    (hn0 : 0 < n) (hSl : S ≤ D.length) (hPl : P ≤ D.length) (hcl : Hid (cl D (oE D) n S = (P, n - K)))
    (hK : K = n) :
    Calls Tryf.prog 7 #[.slice a D.length c] w fun e w' => e = .returned (.bool true) ∧ Below w.heap.size w w' := by
  have hn1 : n ≤ 10000 := by rw [← hn.out]; exact oE_le D
  have hn2 : n ≤ D.length := by rw [← hn.out]; exact oE_len D
  go_enter Tryf.func7, Tryf.ntmps7
  go_wp2_with (go_at_call 26; refine (zzBytes26_yes _ _ _ _ hlen).mono ?_; rintro e w' ⟨rfl, hw⟩; obtain rfl := hw.symm; clear hw)
  refine (zzClone_any a c D _ hlen hb).mono ?_
  rintro e w1 ⟨a1, rfl, hb1, hbel1⟩
  have HB1 := hide hb1
  have HL1 := hide hbel1
  clear hb1 hbel1
  go_wp2_with fail
  refine (lo_walk a1 D _ hlen HB1).mono ?_
  rintro e w2 ⟨eb, ec, ab, ac, rfl, hbel2, hE2, hA2⟩
  rw [hn.out] at hE2 hA2 ⊢
  rw [hS.out]
  have HE2 := hide hE2
  have HL2 := hide (below_step HL1.out hbel2 (Nat.le_refl _))
  have HB12 := hide (HB1.out.later hbel2 HB1.out.lo)
  clear hbel2 hE2 hA2
  go_wp2_with fail
  refine (zzClone_any a1 _ D _ hlen (Bs.bo HB12.out)).mono ?_
  rintro e w3 ⟨a3, rfl, hb3, hbel3⟩
  have HB3 := hide hb3
  have HL3 := hide (below_step HL2.out hbel3 (Nat.le_refl _))
  have HB13 := hide (HB12.out.later hbel3 HB12.out.lo)
  have HE3 := hide (HE2.out.later hbel3 HE2.out.lt)
  clear hb3 hbel3
  go_wp2_with fail
  refine (newReader_rd a3 _ D _ hlen HB3.out).mono ?_
  rintro e w4 ⟨rfl, hbel4, hrd4⟩
  have HL34 := hide hbel4
  have HR4 := hide hrd4
  clear hbel4 hrd4
  go_wp2_with fail
  go_loopw [8] (fun tv wr => ∃ t pos : Nat, t ≤ n ∧ tv = .int .i64 t ∧ Hid (t = 0 → pos = 0) ∧ Hid (Rd wr w3.heap.size D ⟨pos, false, lvs D t⟩) ∧ Hid (At D t pos) ∧ Hid (Below w3.heap.size w3 wr)) (fun tv _ => n - (intOf tv).toNat)
  case atStart => exact ⟨0, 0, Nat.zero_le _, rfl, fun _ => rfl, HR4, At.zero D, HL34⟩
  case round =>
    obtain ⟨t, pos, ht, rfl, HZ, HRt, HAt, HLt⟩ := hrel
    have HLw := hide (HL3.out.trans (HLt.out.mono HL3.out.size))
    have HFt := hide (show F.answers wr.tape by rw [HLw.out.tape]; exact hF)
    by_cases htn : t < n
    · obtain ⟨hent, hat⟩ := HAt.out.step (by rw [hn.out]; exact htn)
      have HENT := hide hent
      have HAT := hide hat
      clear hent hat
      go_wp2_with fail
      refine (enter_rd F _ D _ _ HFt.out HRt.out rfl).mono ?_
      rintro e w5 ⟨rfl, hbel5, hrd5⟩
      rw [HENT.out] at hrd5
      have HR5 := hide hrd5
      have HL5 := hide (HLt.out.trans hbel5)
      clear hrd5 hbel5
      go_wp2_with fail
      go_roundw
      case rel => exact ⟨t + 1, _, by omega, by go_num, (fun h => by omega), HR5, HAT, HL5⟩
      case measure => simp [intOf]; omega
    · obtain rfl : n = t := by omega
      rename World => w5
      have hnz : ((n : Int) == 0) = false := by simp; omega
      have HSK : Hid (skip D pos = S) := by
        have h := HAt.out
        rw [← hn.out] at h
        rw [← hS.out]
        exact h.last.2
      have HC0 : Hid (cl D (oE D) (n - 0) pos = (P, n - K)) := by
        show cl D (oE D) n pos = _
        have h := hcl.out
        rw [← HSK.out] at h
        obtain ⟨m, rfl⟩ : ∃ m, n = m + 1 := ⟨n - 1, by omega⟩
        rw [cl_skip] at h
        exact h
      have HBd := hide (HB13.out.later HLt.out HB13.out.lo)
      have HEd := hide (HE3.out.later HLt.out HE3.out.lt)
      go_wp2_with fail
      go_loopw [9, 10] (fun pv kv wx => ∃ (q k nq : Nat), q ≤ D.length ∧ k ≤ n ∧ pv = .int .i64 q ∧ kv = .int .i64 k ∧ Hid (cl D (oE D) (n - k) q = (P, n - K)) ∧ wx = w5.drewN nq) (fun _ kv _ => n - (intOf kv).toNat)
      case atStart => exact ⟨S, 0, 0, hSl, Nat.zero_le _, rfl, rfl, hcl, rfl⟩
      case round =>
        obtain ⟨q, k, nq, hq, hk, rfl, rfl, HC, rfl⟩ := hrel
        have HR5x : Hid (Rd (w5.drewN nq) w3.heap.size D ⟨pos, false, lvs D (n - 0)⟩) := HRt.out.drewN
        have HL5x : Hid (Below w3.heap.size w3 (w5.drewN nq)) := belowDrewN HLt.out
        by_cases hkn : k < n
        · go_wp2_with fail
          go_loop [9] (fun pv => ∃ x : Nat, x ≤ D.length ∧ pv = .int .i64 x ∧ Hid (skip D x = skip D q)) (fun pv => D.length - (intOf pv).toNat)
          case atStart => exact ⟨q, hq, rfl, rfl⟩
          case round =>
            obtain ⟨x, hx, rfl, hs⟩ := hrel
            obtain ⟨ev, hev⟩ : ∃ ev, ev = (oE D).getD (n - 1 - k) 0 := ⟨_, rfl⟩
            have hec := HEd.out.cell (j := n - 1 - k) (by omega)
            rw [← hev] at hec
            have HEV := hide hev
            clear hev
            by_cases hlt : x < D.length
            · obtain ⟨db, rfl, hcel⟩ := HBd.out.cell hlt
              by_cases hsp : spB (pk D x) = true
              · have hst : Hid (skip D (x + 1) = skip D q) := (skip_step hlt hsp).symm.trans hs.out
                clear hec
                go_wp2_with (first | (go_at_call 16; refine (zzIsSpace_any _ _).mono ?_; rintro e w' ⟨rfl, hw⟩; obtain rfl := hw.symm; clear hw) | fail)
                go_round
                case rel => exact ⟨x + 1, by omega, by go_num, hst⟩
                case measure => simp [intOf]; omega
              · have hsq : skip D q = x := (hs.out.symm.trans (skip_stop (fun h => hsp h.2)))
                have hsp' : spB (pk D x) = false := by simpa using hsp
                clear hsp
                by_cases hmiss : pk D (skip D q) = (oE D).getD (n - 1 - k) 0
                · have HC6 : Hid (cl D (oE D) (n - (k + 1)) (x + 1) = (P, n - K)) := by
                    have h := HC.out
                    rw [show n - k = n - 1 - k + 1 from by omega, cl_hit hmiss, hsq] at h
                    rw [show n - (k + 1) = n - 1 - k from by omega]
                    exact h
                  have hbit : (pk D x == ev) = true := by rw [HEV.out, ← hmiss, hsq]; simp
                  clear hmiss hsq
                  go_wp2_with (first | (go_at_call 16; refine (zzIsSpace_any _ _).mono ?_; rintro e w' ⟨rfl, hw⟩; obtain rfl := hw.symm; clear hw) | fail)
                  go_quiet (fail)
                  go_wp2_with fail
                  go_roundw
                  case rel => exact ⟨x + 1, k + 1, _, by omega, by omega, by go_num, by go_num, HC6, rfl⟩
                  case measure => simp [intOf]; omega
                · have hbit : (pk D x == ev) = false := by rw [HEV.out]; rw [hsq] at hmiss; simpa using hmiss
                  have hx2 := HC.out
                  rw [show n - k = n - 1 - k + 1 from by omega, cl_miss hmiss, hsq] at hx2
                  have hx3 := congrArg Prod.fst hx2
                  have hx4 := congrArg Prod.snd hx2
                  simp only at hx3 hx4
                  exfalso
                  omega
            · have hsq : skip D q = x := (hs.out.symm.trans (skip_stop (fun h => hlt h.1)))
              have hmiss : ¬ pk D (skip D q) = (oE D).getD (n - 1 - k) 0 := by
                rw [hsq, pk_of_ge hlt]
                intro h
                have := oE_mem (getD_mem (E := oE D) (m := n - 1 - k) (by rw [hn.out]; omega))
                rw [← h] at this
                revert this
                decide
              have hd1 : decide ((x : Int) < (D.length : Int)) = false := by simp; omega
              have hd2 : decide (x < D.length) = false := by simp; omega
              have hx2 := HC.out
              rw [show n - k = n - 1 - k + 1 from by omega, cl_miss hmiss, hsq] at hx2
              have hx3 := congrArg Prod.fst hx2
              have hx4 := congrArg Prod.snd hx2
              simp only at hx3 hx4
              exfalso
              omega
        · obtain rfl : n = k := by omega
          have hx2 := HC.out
          rw [show n - n = 0 from by omega] at hx2
          have hx3 : q = P := congrArg Prod.fst hx2
          obtain rfl := hx3.symm
          clear hx2 hx3
          go_wp2_with fail
          go_loopw [11, 12, 13] (fun popv sv tv wx => ∃ (t q4 : Nat), t ≤ n ∧ popv = .int .i64 t ∧ sv = .bool false ∧ tv = .int .i64 t ∧ Hid (Rd wx w3.heap.size D ⟨q4, false, lvs D (n - t)⟩) ∧ Hid (cl D (oE D) (n - t) q4 = (P, n - K)) ∧ Hid (Below w3.heap.size w3 wx)) (fun _ _ tv _ => n - (intOf tv).toNat)
          case atStart => first | exact ⟨0, pos, Nat.zero_le _, rfl, rfl, rfl, HR5x.out.drewN, HC0, belowDrewN HL5x.out⟩ | exact ⟨0, pos, Nat.zero_le _, rfl, rfl, rfl, HR5x, HC0, HL5x⟩
          case round =>
            obtain ⟨t, q4, ht, rfl, rfl, rfl, HR4, HC4, HL4⟩ := hrel
            have HLw4 := hide (HL3.out.trans (HL4.out.mono HL3.out.size))
            have HF4 := hide (show F.answers wr.tape by rw [HLw4.out.tape]; exact hF)
            by_cases htn : t < n
            · obtain ⟨d, hd⟩ : ∃ d, n = t + 1 + d := ⟨n - (t + 1), by omega⟩
              have HD := hide hd
              have HR4x := HR4
              rw [show n - t = d + 1 from by omega] at HR4x
              by_cases hhit : pk D (skip D q4) = (oE D).getD d 0
              · have h := HC4.out
                rw [show n - t = d + 1 from by omega, cl_hit hhit] at h
                have HC6 : Hid (cl D (oE D) (n - (t + 1)) (skip D q4 + 1) = (P, n - K)) := by
                  rw [show n - (t + 1) = d from by omega]
                  exact h
                have HM := hide (more_hit (by rw [hn.out]; omega) hhit)
                clear h hhit hd
                go_wp2_with fail
                refine (more_rd F _ D _ _ HF4.out HR4x.out).mono ?_
                rintro e w6 ⟨rfl, hbel6, hrd6⟩
                rw [HM.out] at hrd6
                have HR6 := hide hrd6
                have HL6 := hide (HL4.out.trans hbel6)
                clear hrd6 hbel6
                simp only [HM.out]
                have hdl : Hid ((lvs D d).length = d) := lvs_length (by rw [hn.out]; have := HD.out; omega)
                go_wp2_with fail
                refine (zzDepth_rd _ D _ _ HR6.out).mono ?_
                rintro e w' ⟨rfl, hw⟩
                obtain rfl := hw.symm
                clear hw
                simp only [hdl.out]
                have hcmp : ((d : Int) != (n : Int) - ((t : Int) + 1)) = false := by have := HD.out; simp; omega
                go_wp2_with fail
                go_roundw
                case rel =>
                  refine ⟨t + 1, skip D q4 + 1, by omega, by go_num, rfl, by go_num, ?_, HC6, HL6⟩
                  rw [show n - (t + 1) = d from by have := HD.out; omega]
                  exact HR6
                case measure => simp [intOf]; omega
              · clear hd
                have hd := HD.out
                exfalso
                have h := HC4.out
                rw [show n - t = d + 1 from by omega, cl_miss hhit] at h
                have := congrArg Prod.snd h
                simp at this
                omega
            · obtain rfl : n = t := by omega
              have h := HC4.out
              rw [show n - n = 0 from by omega] at h
              have h1 : q4 = P := congrArg Prod.fst h
              obtain rfl := h1.symm
              clear h h1
              have HLz := hide (HL3.out.trans (HL4.out.mono HL3.out.size))
              rw [show n - n = 0 from by omega] at HR4
              have HRz := HR4
              have hdz : Hid ((lvs D 0).length = 0) := rfl
              go_wp2_with fail
              refine (zzDepth_rd _ D _ _ HRz.out).mono ?_
              rintro e w' ⟨rfl, hw⟩
              obtain rfl := hw.symm
              clear hw
              simp only [hdz.out]
              go_wp2_with fail
              refine (zzErr_rd_nil _ D _ _ HRz.out rfl).mono ?_
              rintro e w' ⟨rfl, hw⟩
              obtain rfl := hw.symm
              clear hw
              go_wp2_with fail
              refine (offset_rd _ D _ _ HRz.out).mono ?_
              rintro e w' ⟨rfl, hw⟩
              obtain rfl := hw.symm
              clear hw
              go_wp2
              go_ret
              exact ⟨rfl, HLz.out⟩

set_option maxRecDepth 100000 in
set_option maxHeartbeats 16000000 in
theorem closes_main2 (F : Interp) (a : Option Addr) (c : Nat) (D : List Int) (n S P K : Nat) (w : World) (hF : F.answers w.tape) (hlen : D.length ≤ 1048576) (hb : Hid (Bo w a D)) (hn : Hid ((oE D).length = n)) (hS : Hid (oS D = S))
    (hn0 : 0 < n) (hSl : S ≤ D.length) (hPl : P ≤ D.length) (hcl : Hid (cl D (oE D) n S = (P, n - K)))
    (hK : K < n) :
    Calls Tryf.prog 7 #[.slice a D.length c] w fun e w' => e = .returned (.bool true) ∧ Below w.heap.size w w' := by
  have hn1 : n ≤ 10000 := by rw [← hn.out]; exact oE_le D
  have hn2 : n ≤ D.length := by rw [← hn.out]; exact oE_len D
  go_enter Tryf.func7, Tryf.ntmps7
  go_wp2_with (go_at_call 26; refine (zzBytes26_yes _ _ _ _ hlen).mono ?_; rintro e w' ⟨rfl, hw⟩; obtain rfl := hw.symm; clear hw)
  refine (zzClone_any a c D _ hlen hb).mono ?_
  rintro e w1 ⟨a1, rfl, hb1, hbel1⟩
  have HB1 := hide hb1
  have HL1 := hide hbel1
  clear hb1 hbel1
  go_wp2_with fail
  refine (lo_walk a1 D _ hlen HB1).mono ?_
  rintro e w2 ⟨eb, ec, ab, ac, rfl, hbel2, hE2, hA2⟩
  rw [hn.out] at hE2 hA2 ⊢
  rw [hS.out]
  have HE2 := hide hE2
  have HL2 := hide (below_step HL1.out hbel2 (Nat.le_refl _))
  have HB12 := hide (HB1.out.later hbel2 HB1.out.lo)
  clear hbel2 hE2 hA2
  go_wp2_with fail
  refine (zzClone_any a1 _ D _ hlen (Bs.bo HB12.out)).mono ?_
  rintro e w3 ⟨a3, rfl, hb3, hbel3⟩
  have HB3 := hide hb3
  have HL3 := hide (below_step HL2.out hbel3 (Nat.le_refl _))
  have HB13 := hide (HB12.out.later hbel3 HB12.out.lo)
  have HE3 := hide (HE2.out.later hbel3 HE2.out.lt)
  clear hb3 hbel3
  go_wp2_with fail
  refine (newReader_rd a3 _ D _ hlen HB3.out).mono ?_
  rintro e w4 ⟨rfl, hbel4, hrd4⟩
  have HL34 := hide hbel4
  have HR4 := hide hrd4
  clear hbel4 hrd4
  go_wp2_with fail
  go_loopw [8] (fun tv wr => ∃ t pos : Nat, t ≤ n ∧ tv = .int .i64 t ∧ Hid (t = 0 → pos = 0) ∧ Hid (Rd wr w3.heap.size D ⟨pos, false, lvs D t⟩) ∧ Hid (At D t pos) ∧ Hid (Below w3.heap.size w3 wr)) (fun tv _ => n - (intOf tv).toNat)
  case atStart => exact ⟨0, 0, Nat.zero_le _, rfl, fun _ => rfl, HR4, At.zero D, HL34⟩
  case round =>
    obtain ⟨t, pos, ht, rfl, HZ, HRt, HAt, HLt⟩ := hrel
    have HLw := hide (HL3.out.trans (HLt.out.mono HL3.out.size))
    have HFt := hide (show F.answers wr.tape by rw [HLw.out.tape]; exact hF)
    by_cases htn : t < n
    · obtain ⟨hent, hat⟩ := HAt.out.step (by rw [hn.out]; exact htn)
      have HENT := hide hent
      have HAT := hide hat
      clear hent hat
      go_wp2_with fail
      refine (enter_rd F _ D _ _ HFt.out HRt.out rfl).mono ?_
      rintro e w5 ⟨rfl, hbel5, hrd5⟩
      rw [HENT.out] at hrd5
      have HR5 := hide hrd5
      have HL5 := hide (HLt.out.trans hbel5)
      clear hrd5 hbel5
      go_wp2_with fail
      go_roundw
      case rel => exact ⟨t + 1, _, by omega, by go_num, (fun h => by omega), HR5, HAT, HL5⟩
      case measure => simp [intOf]; omega
    · obtain rfl : n = t := by omega
      rename World => w5
      have hnz : ((n : Int) == 0) = false := by simp; omega
      have HSK : Hid (skip D pos = S) := by
        have h := HAt.out
        rw [← hn.out] at h
        rw [← hS.out]
        exact h.last.2
      have HC0 : Hid (cl D (oE D) (n - 0) pos = (P, n - K)) := by
        show cl D (oE D) n pos = _
        have h := hcl.out
        rw [← HSK.out] at h
        obtain ⟨m, rfl⟩ : ∃ m, n = m + 1 := ⟨n - 1, by omega⟩
        rw [cl_skip] at h
        exact h
      have HBd := hide (HB13.out.later HLt.out HB13.out.lo)
      have HEd := hide (HE3.out.later HLt.out HE3.out.lt)
      go_wp2_with fail
      go_loopw [9, 10] (fun pv kv wx => ∃ (q k nq : Nat), q ≤ D.length ∧ k ≤ n ∧ pv = .int .i64 q ∧ kv = .int .i64 k ∧ Hid (cl D (oE D) (n - k) q = (P, n - K)) ∧ wx = w5.drewN nq) (fun _ kv _ => n - (intOf kv).toNat)
      case atStart => exact ⟨S, 0, 0, hSl, Nat.zero_le _, rfl, rfl, hcl, rfl⟩
      case round =>
        obtain ⟨q, k, nq, hq, hk, rfl, rfl, HC, rfl⟩ := hrel
        have HR5x : Hid (Rd (w5.drewN nq) w3.heap.size D ⟨pos, false, lvs D (n - 0)⟩) := HRt.out.drewN
        have HL5x : Hid (Below w3.heap.size w3 (w5.drewN nq)) := belowDrewN HLt.out
        by_cases hkn : k < n
        · go_wp2_with fail
          go_loop [9] (fun pv => ∃ x : Nat, x ≤ D.length ∧ pv = .int .i64 x ∧ Hid (skip D x = skip D q)) (fun pv => D.length - (intOf pv).toNat)
          case atStart => exact ⟨q, hq, rfl, rfl⟩
          case round =>
            obtain ⟨x, hx, rfl, hs⟩ := hrel
            obtain ⟨ev, hev⟩ : ∃ ev, ev = (oE D).getD (n - 1 - k) 0 := ⟨_, rfl⟩
            have hec := HEd.out.cell (j := n - 1 - k) (by omega)
            rw [← hev] at hec
            have HEV := hide hev
            clear hev
            by_cases hlt : x < D.length
            · obtain ⟨db, rfl, hcel⟩ := HBd.out.cell hlt
              by_cases hsp : spB (pk D x) = true
              · have hst : Hid (skip D (x + 1) = skip D q) := (skip_step hlt hsp).symm.trans hs.out
                clear hec
                go_wp2_with (first | (go_at_call 16; refine (zzIsSpace_any _ _).mono ?_; rintro e w' ⟨rfl, hw⟩; obtain rfl := hw.symm; clear hw) | fail)
                go_round
                case rel => exact ⟨x + 1, by omega, by go_num, hst⟩
                case measure => simp [intOf]; omega
              · have hsq : skip D q = x := (hs.out.symm.trans (skip_stop (fun h => hsp h.2)))
                have hsp' : spB (pk D x) = false := by simpa using hsp
                clear hsp
                by_cases hmiss : pk D (skip D q) = (oE D).getD (n - 1 - k) 0
                · have HC6 : Hid (cl D (oE D) (n - (k + 1)) (x + 1) = (P, n - K)) := by
                    have h := HC.out
                    rw [show n - k = n - 1 - k + 1 from by omega, cl_hit hmiss, hsq] at h
                    rw [show n - (k + 1) = n - 1 - k from by omega]
                    exact h
                  have hbit : (pk D x == ev) = true := by rw [HEV.out, ← hmiss, hsq]; simp
                  clear hmiss hsq
                  go_wp2_with (first | (go_at_call 16; refine (zzIsSpace_any _ _).mono ?_; rintro e w' ⟨rfl, hw⟩; obtain rfl := hw.symm; clear hw) | fail)
                  go_quiet (fail)
                  go_wp2_with fail
                  go_roundw
                  case rel => exact ⟨x + 1, k + 1, _, by omega, by omega, by go_num, by go_num, HC6, rfl⟩
                  case measure => simp [intOf]; omega
                · have hbit : (pk D x == ev) = false := by rw [HEV.out]; rw [hsq] at hmiss; simpa using hmiss
                  have hx2 := HC.out
                  rw [show n - k = n - 1 - k + 1 from by omega, cl_miss hmiss, hsq] at hx2
                  have hx3 := congrArg Prod.fst hx2
                  have hx4 := congrArg Prod.snd hx2
                  simp only at hx3 hx4
                  obtain rfl : K = k := by omega
                  obtain rfl := hx3.symm
                  clear hx2 hx3 hx4 hmiss hsq
                  go_wp2_with (first | (go_at_call 16; refine (zzIsSpace_any _ _).mono ?_; rintro e w' ⟨rfl, hw⟩; obtain rfl := hw.symm; clear hw) | fail)
                  go_quiet (fail)
                  go_wp2_with fail
                  go_loopw [11, 12, 13] (fun popv sv tv wx => ∃ (t q4 : Nat), t ≤ n ∧ popv = .int .i64 t ∧ sv = .bool false ∧ tv = .int .i64 t ∧ Hid (Rd wx w3.heap.size D ⟨q4, false, lvs D (n - t)⟩) ∧ Hid (cl D (oE D) (n - t) q4 = (P, n - K)) ∧ Hid (Below w3.heap.size w3 wx)) (fun _ _ tv _ => n - (intOf tv).toNat)
                  case atStart => first | exact ⟨0, pos, Nat.zero_le _, rfl, rfl, rfl, HR5x.out.drewN, HC0, belowDrewN HL5x.out⟩ | exact ⟨0, pos, Nat.zero_le _, rfl, rfl, rfl, HR5x, HC0, HL5x⟩
                  case round =>
                    obtain ⟨t, q4, ht, rfl, rfl, rfl, HR4, HC4, HL4⟩ := hrel
                    have HLw4 := hide (HL3.out.trans (HL4.out.mono HL3.out.size))
                    have HF4 := hide (show F.answers wr.tape by rw [HLw4.out.tape]; exact hF)
                    by_cases htn : t < n
                    · obtain ⟨d, hd⟩ : ∃ d, n = t + 1 + d := ⟨n - (t + 1), by omega⟩
                      have HD := hide hd
                      have HR4x := HR4
                      rw [show n - t = d + 1 from by omega] at HR4x
                      by_cases hhit : pk D (skip D q4) = (oE D).getD d 0
                      · have h := HC4.out
                        rw [show n - t = d + 1 from by omega, cl_hit hhit] at h
                        have HC6 : Hid (cl D (oE D) (n - (t + 1)) (skip D q4 + 1) = (P, n - K)) := by
                          rw [show n - (t + 1) = d from by omega]
                          exact h
                        have HM := hide (more_hit (by rw [hn.out]; omega) hhit)
                        clear h hhit hd
                        go_wp2_with fail
                        refine (more_rd F _ D _ _ HF4.out HR4x.out).mono ?_
                        rintro e w6 ⟨rfl, hbel6, hrd6⟩
                        rw [HM.out] at hrd6
                        have HR6 := hide hrd6
                        have HL6 := hide (HL4.out.trans hbel6)
                        clear hrd6 hbel6
                        simp only [HM.out]
                        have hdl : Hid ((lvs D d).length = d) := lvs_length (by rw [hn.out]; have := HD.out; omega)
                        go_wp2_with fail
                        refine (zzDepth_rd _ D _ _ HR6.out).mono ?_
                        rintro e w' ⟨rfl, hw⟩
                        obtain rfl := hw.symm
                        clear hw
                        simp only [hdl.out]
                        have hcmp : ((d : Int) != (n : Int) - ((t : Int) + 1)) = false := by have := HD.out; simp; omega
                        go_wp2_with fail
                        go_roundw
                        case rel =>
                          refine ⟨t + 1, skip D q4 + 1, by omega, by go_num, rfl, by go_num, ?_, HC6, HL6⟩
                          rw [show n - (t + 1) = d from by have := HD.out; omega]
                          exact HR6
                        case measure => simp [intOf]; omega
                      · clear hd
                        have hd := HD.out
                        have h := HC4.out
                        rw [show n - t = d + 1 from by omega, cl_miss hhit] at h
                        have h1 := congrArg Prod.fst h
                        have h2 := congrArg Prod.snd h
                        simp only at h1 h2
                        obtain rfl : K = t := by omega
                        clear h h2
                        have hm := more_miss (by rw [hn.out]; omega) hhit
                        rw [h1] at hm
                        have HM := hide hm
                        clear hm hhit h1
                        go_wp2_with fail
                        refine (more_rd F _ D _ _ HF4.out HR4x.out).mono ?_
                        rintro e w6 ⟨rfl, hbel6, hrd6⟩
                        rw [HM.out] at hrd6
                        have HRz := hide hrd6
                        have hdz : Hid ((lvs D d ++ [((oE D).getD d 0, true)]).length = d + 1) := by
                          show _ = _
                          rw [List.length_append, lvs_length (by rw [hn.out]; omega)]
                          rfl
                        have HLz := hide (HL3.out.trans ((HL4.out.trans hbel6).mono HL3.out.size))
                        clear hrd6 hbel6
                        simp only [HM.out]
                        have hcmp : (((d + 1 : Nat) : Int) == (n : Int) - (K : Int)) = true := by simp; omega
                        go_wp2_with fail
                        refine (zzDepth_rd _ D _ _ HRz.out).mono ?_
                        rintro e w' ⟨rfl, hw⟩
                        obtain rfl := hw.symm
                        clear hw
                        simp only [hdz.out]
                        go_wp2_with fail
                        refine (zzErr_rd_nil _ D _ _ HRz.out rfl).mono ?_
                        rintro e w' ⟨rfl, hw⟩
                        obtain rfl := hw.symm
                        clear hw
                        go_wp2_with fail
                        refine (offset_rd _ D _ _ HRz.out).mono ?_
                        rintro e w' ⟨rfl, hw⟩
                        obtain rfl := hw.symm
                        clear hw
                        go_wp2
                        go_ret
                        exact ⟨rfl, HLz.out⟩
                    · obtain rfl : n = t := by omega
                      exfalso
                      have h := HC4.out
                      rw [show n - n = 0 from by omega] at h
                      have h2 : 0 = n - K := congrArg Prod.snd h
                      omega
            · have hsq : skip D q = x := (hs.out.symm.trans (skip_stop (fun h => hlt h.1)))
              have hmiss : ¬ pk D (skip D q) = (oE D).getD (n - 1 - k) 0 := by
                rw [hsq, pk_of_ge hlt]
                intro h
                have := oE_mem (getD_mem (E := oE D) (m := n - 1 - k) (by rw [hn.out]; omega))
                rw [← h] at this
                revert this
                decide
              have hd1 : decide ((x : Int) < (D.length : Int)) = false := by simp; omega
              have hd2 : decide (x < D.length) = false := by simp; omega
              have hx2 := HC.out
              rw [show n - k = n - 1 - k + 1 from by omega, cl_miss hmiss, hsq] at hx2
              have hx3 := congrArg Prod.fst hx2
              have hx4 := congrArg Prod.snd hx2
              simp only at hx3 hx4
              obtain rfl : K = k := by omega
              obtain rfl := hx3.symm
              clear hx2 hx3 hx4 hmiss hsq
              go_wp2_with (first | (go_at_call 16; refine (zzIsSpace_any _ _).mono ?_; rintro e w' ⟨rfl, hw⟩; obtain rfl := hw.symm; clear hw) | fail)
              go_quiet (fail)
              go_wp2_with fail
              go_loopw [11, 12, 13] (fun popv sv tv wx => ∃ (t q4 : Nat), t ≤ n ∧ popv = .int .i64 t ∧ sv = .bool false ∧ tv = .int .i64 t ∧ Hid (Rd wx w3.heap.size D ⟨q4, false, lvs D (n - t)⟩) ∧ Hid (cl D (oE D) (n - t) q4 = (P, n - K)) ∧ Hid (Below w3.heap.size w3 wx)) (fun _ _ tv _ => n - (intOf tv).toNat)
              case atStart => first | exact ⟨0, pos, Nat.zero_le _, rfl, rfl, rfl, HR5x.out.drewN, HC0, belowDrewN HL5x.out⟩ | exact ⟨0, pos, Nat.zero_le _, rfl, rfl, rfl, HR5x, HC0, HL5x⟩
              case round =>
                obtain ⟨t, q4, ht, rfl, rfl, rfl, HR4, HC4, HL4⟩ := hrel
                have HLw4 := hide (HL3.out.trans (HL4.out.mono HL3.out.size))
                have HF4 := hide (show F.answers wr.tape by rw [HLw4.out.tape]; exact hF)
                by_cases htn : t < n
                · obtain ⟨d, hd⟩ : ∃ d, n = t + 1 + d := ⟨n - (t + 1), by omega⟩
                  have HD := hide hd
                  have HR4x := HR4
                  rw [show n - t = d + 1 from by omega] at HR4x
                  by_cases hhit : pk D (skip D q4) = (oE D).getD d 0
                  · have h := HC4.out
                    rw [show n - t = d + 1 from by omega, cl_hit hhit] at h
                    have HC6 : Hid (cl D (oE D) (n - (t + 1)) (skip D q4 + 1) = (P, n - K)) := by
                      rw [show n - (t + 1) = d from by omega]
                      exact h
                    have HM := hide (more_hit (by rw [hn.out]; omega) hhit)
                    clear h hhit hd
                    go_wp2_with fail
                    refine (more_rd F _ D _ _ HF4.out HR4x.out).mono ?_
                    rintro e w6 ⟨rfl, hbel6, hrd6⟩
                    rw [HM.out] at hrd6
                    have HR6 := hide hrd6
                    have HL6 := hide (HL4.out.trans hbel6)
                    clear hrd6 hbel6
                    simp only [HM.out]
                    have hdl : Hid ((lvs D d).length = d) := lvs_length (by rw [hn.out]; have := HD.out; omega)
                    go_wp2_with fail
                    refine (zzDepth_rd _ D _ _ HR6.out).mono ?_
                    rintro e w' ⟨rfl, hw⟩
                    obtain rfl := hw.symm
                    clear hw
                    simp only [hdl.out]
                    have hcmp : ((d : Int) != (n : Int) - ((t : Int) + 1)) = false := by have := HD.out; simp; omega
                    go_wp2_with fail
                    go_roundw
                    case rel =>
                      refine ⟨t + 1, skip D q4 + 1, by omega, by go_num, rfl, by go_num, ?_, HC6, HL6⟩
                      rw [show n - (t + 1) = d from by have := HD.out; omega]
                      exact HR6
                    case measure => simp [intOf]; omega
                  · clear hd
                    have hd := HD.out
                    have h := HC4.out
                    rw [show n - t = d + 1 from by omega, cl_miss hhit] at h
                    have h1 := congrArg Prod.fst h
                    have h2 := congrArg Prod.snd h
                    simp only at h1 h2
                    obtain rfl : K = t := by omega
                    clear h h2
                    have hm := more_miss (by rw [hn.out]; omega) hhit
                    rw [h1] at hm
                    have HM := hide hm
                    clear hm hhit h1
                    go_wp2_with fail
                    refine (more_rd F _ D _ _ HF4.out HR4x.out).mono ?_
                    rintro e w6 ⟨rfl, hbel6, hrd6⟩
                    rw [HM.out] at hrd6
                    have HRz := hide hrd6
                    have hdz : Hid ((lvs D d ++ [((oE D).getD d 0, true)]).length = d + 1) := by
                      show _ = _
                      rw [List.length_append, lvs_length (by rw [hn.out]; omega)]
                      rfl
                    have HLz := hide (HL3.out.trans ((HL4.out.trans hbel6).mono HL3.out.size))
                    clear hrd6 hbel6
                    simp only [HM.out]
                    have hcmp : (((d + 1 : Nat) : Int) == (n : Int) - (K : Int)) = true := by simp; omega
                    go_wp2_with fail
                    refine (zzDepth_rd _ D _ _ HRz.out).mono ?_
                    rintro e w' ⟨rfl, hw⟩
                    obtain rfl := hw.symm
                    clear hw
                    simp only [hdz.out]
                    go_wp2_with fail
                    refine (zzErr_rd_nil _ D _ _ HRz.out rfl).mono ?_
                    rintro e w' ⟨rfl, hw⟩
                    obtain rfl := hw.symm
                    clear hw
                    go_wp2_with fail
                    refine (offset_rd _ D _ _ HRz.out).mono ?_
                    rintro e w' ⟨rfl, hw⟩
                    obtain rfl := hw.symm
                    clear hw
                    go_wp2
                    go_ret
                    exact ⟨rfl, HLz.out⟩
                · obtain rfl : n = t := by omega
                  exfalso
                  have h := HC4.out
                  rw [show n - n = 0 from by omega] at h
                  have h2 : 0 = n - K := congrArg Prod.snd h
                  omega
        · obtain rfl : n = k := by omega
          have hx2 := HC.out
          rw [show n - n = 0 from by omega] at hx2
          have hx4 : 0 = n - K := congrArg Prod.snd hx2
          exfalso
          omega

end Go.Proofs.Qxb6616904aFmt
