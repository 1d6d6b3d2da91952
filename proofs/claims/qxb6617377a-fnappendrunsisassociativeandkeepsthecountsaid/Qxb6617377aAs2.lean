/-
  FnAppendRunsIsAssociativeAndKeepsTheCount, walked.
-/
import Derived.Test.Qxb6617377aAs0
namespace Go.Proofs.Qxb6617377a
set_option linter.unusedVariables false
set_option linter.unusedSimpArgs false
open Go.RowKit

set_option maxRecDepth 100000 in
set_option maxHeartbeats 16000000 in
theorem assoc_nil (a b x : Option Addr) (c d f : Nat) (A B C : List (Int × Int)) (w : World) (h16 : A.length + B.length + C.length ≤ 65536) (ha : Hid (Ro w a A)) (hb : Hid (Ro w b B)) (hc : Hid (Ro w x C)) (p g : Nat) (G : List (Int × Int)) (hG : Hid (apR (apR A B) C = G)) (hg : Hid (G.length = g)) (hlw : Hid (Lw A B C G)) (hp : Hid (p = sI A))
    (hgl : A.length ≤ g) (hgt : g ≤ A.length + B.length + C.length) (h0 : Hid (A.length ≤ 0)) (hp1 : Hid (p ≤ 0)) (hd0 : decide ((A.length : Int) - 1 < 0) = true) (hz1 : ((g : Int) == 0) = false) (hz2 : ((A.length : Int) + B.length + C.length == 0) = false)  :
    Calls Try.prog 5 #[.slice a A.length c, .slice b B.length d, .slice x C.length f] w fun e w' => e = .returned (.bool true) ∧ Below w.heap.size w w' := by
  have hl1 := apR_len A B
  have hl2 := apR_len B C
  go_enter Try.func5, Try.ntmps5
  go_wp2_with (go_at_call 14; refine (zz14_yes _ _ _ _ _ _ _ _ _ _ (by omega)).mono ?_; rintro e w' ⟨rfl, hw⟩; obtain rfl := hw.symm; clear hw)
  refine (clone_any a c A _ (by omega) ha).mono ?_
  rintro e w1 ⟨a1, rfl, r1, b1⟩
  have R1 := hide r1
  have B1 := hide b1
  clear r1 b1
  go_wp2_with fail
  refine (clone_any b d B _ (by omega) (hb.out.later B1.out)).mono ?_
  rintro e w2 ⟨a2, rfl, r2, b2⟩
  have P1 : Hid (Ro w2 a1 A) := (R1.out.later b2).ro
  have P2 : Hid (Ro w2 a2 B) := r2.ro
  have P3 : Hid (Ro w2 x C) := (hc.out.later B1.out).later b2
  have B2 : Hid (Below w.heap.size w w2) := below_step B1.out b2 (Nat.le_refl _)
  clear r2 b2 R1 B1 ha hb hc
  go_wp2_with fail
  refine (clone_any x f C _ (by omega) P3).mono ?_
  rintro e w3 ⟨a3, rfl, r3, b3⟩
  have Q1 : Hid (Ro w3 a1 A) := P1.out.later b3
  have Q2 : Hid (Ro w3 a2 B) := P2.out.later b3
  have Q3 : Hid (Ro w3 a3 C) := r3.ro
  have B3 : Hid (Below w.heap.size w w3) := below_step B2.out b3 (Nat.le_refl _)
  clear r3 b3 P1 P2 P3 B2
  go_wp2_with fail
  refine (callAppend_any a1 a2 _ _ A B _ (by omega) (by omega) Q1 Q2).mono ?_
  rintro e w4 ⟨y1, rfl, r4, b4⟩
  have P1 : Hid (Ro w4 a1 A) := Q1.out.later b4
  have P2 : Hid (Ro w4 a2 B) := Q2.out.later b4
  have P3 : Hid (Ro w4 a3 C) := Q3.out.later b4
  have Y1 : Hid (Ro w4 y1 (apR A B)) := r4.ro
  have B4 : Hid (Below w.heap.size w w4) := below_step B3.out b4 (Nat.le_refl _)
  clear r4 b4 Q1 Q2 Q3 B3
  go_wp2_with fail
  have t5 := callAppend_any y1 a3 (apR A B).length C.length (apR A B) C w4 (by omega) (by omega) Y1 P3
  rw [hG.out, hg.out] at t5
  refine t5.mono ?_
  rintro e w5 ⟨y2, rfl, r5, b5⟩
  have Q1 : Hid (Ro w5 a1 A) := P1.out.later b5
  have Q2 : Hid (Ro w5 a2 B) := P2.out.later b5
  have Q3 : Hid (Ro w5 a3 C) := P3.out.later b5
  have Y2 : Hid (Ro w5 y2 G) := r5.ro
  have B5 : Hid (Below w.heap.size w w5) := below_step B4.out b5 (Nat.le_refl _)
  clear r5 b5 P1 P2 P3 B4 Y1 t5
  go_wp2_with fail
  refine (callAppend_any a2 a3 _ _ B C _ (by omega) (by omega) Q2 Q3).mono ?_
  rintro e w6 ⟨y3, rfl, r6, b6⟩
  have P1 : Hid (Ro w6 a1 A) := Q1.out.later b6
  have P2 : Hid (Ro w6 a2 B) := Q2.out.later b6
  have P3 : Hid (Ro w6 a3 C) := Q3.out.later b6
  have Y4 : Hid (Ro w6 y2 G) := Y2.out.later b6
  have Y3 : Hid (Ro w6 y3 (apR B C)) := r6.ro
  have B6 : Hid (Below w.heap.size w w6) := below_step B5.out b6 (Nat.le_refl _)
  clear r6 b6 Q1 Q2 Q3 B5 Y2
  go_wp2_with fail
  have t7 := callAppend_any a1 y3 A.length (apR B C).length A (apR B C) w6 (by omega) (by omega) P1 Y3
  rw [← apR_assoc, hG.out, hg.out] at t7
  refine t7.mono ?_
  rintro e w7 ⟨y5, rfl, r7, b7⟩
  have Q1 : Hid (Ro w7 a1 A) := P1.out.later b7
  have Q2 : Hid (Ro w7 a2 B) := P2.out.later b7
  have Q3 : Hid (Ro w7 a3 C) := P3.out.later b7
  have Y2 : Hid (Ro w7 y2 G) := Y4.out.later b7
  have Y5 : Hid (Ro w7 y5 G) := r7.ro
  have B7 : Hid (Below w.heap.size w w7) := below_step B6.out b7 (Nat.le_refl _)
  clear r7 b7 P1 P2 P3 B6 Y3 Y4 t7
  go_wp2_with fail
  have t8 := same_any y2 y5 g g G w7 (by rw [hg.out]; omega) Y2 Y5
  rw [hg.out] at t8
  refine t8.mono ?_
  rintro e w8 ⟨rfl, b8⟩
  have P1 : Hid (Ro w8 a1 A) := Q1.out.later b8
  have P2 : Hid (Ro w8 a2 B) := Q2.out.later b8
  have P3 : Hid (Ro w8 a3 C) := Q3.out.later b8
  have Y : Hid (Ro w8 y2 G) := Y2.out.later b8
  have B8 : Hid (Below w.heap.size w w8) := below_step B7.out b8 (Nat.le_refl _)
  clear b8 Q1 Q2 Q3 B7 Y2 Y5 t8
  go_wp2_with fail
  go_loopw [10] (fun i wr => ∃ k : Nat, k ≤ p ∧ i = .int .i64 k ∧ Hid (Below w8.heap.size w8 wr)) (fun i _ => p - (intOf i).toNat)
  case atStart => exact ⟨0, Nat.zero_le _, rfl, Below.refl _ _⟩
  case round =>
    obtain ⟨k, hk, rfl, hnx⟩ := hrel
    by_cases hlt : k < p
    · exact absurd hlt (by have := hp1.out; omega)
    · obtain rfl : p = k := by omega
      obtain ⟨W1, rfl⟩ : ∃ W1 : World, W1 = wr := ⟨_, rfl⟩
      go_wp2_with fail
      go_loopw [11] (fun i wr => ∃ k : Nat, p ≤ k ∧ k ≤ g ∧ i = .int .i64 ((k : Int) + 1) ∧ Hid (Below w8.heap.size w8 wr)) (fun i _ => g - (intOf i).toNat)
      case atStart => exact ⟨p, Nat.le_refl _, by (have := hp1.out; omega), (by congr 1; (have := hp1.out; omega)), hnx⟩
      case round =>
        clear hnx
        obtain ⟨k, hk0, hk1, rfl, hnx⟩ := hrel
        by_cases hlt : k + 1 < g
        · have hne := hlw.out.apart k (by have := hp.out; omega) (by rw [hg.out]; omega)
          have hne' : (rR G (k + 1) == rR G k) = false := by simp [hne]
          obtain ⟨b1, o1, rfl, hc1, hc2⟩ := Y.out.2 k (by rw [hg.out]; omega)
          obtain ⟨b2, o2, hx, hd1, hd2⟩ := Y.out.2 (k + 1) (by rw [hg.out]; omega)
          cases hx
          have hc1' := cell_later hnx.out hc1
          have hd1' := cell_later hnx.out hd1
          clear hc1 hc2 hd1 hd2 hne
          go_wp2
          go_quiet (fail)
          go_wp2
          go_roundw
          case rel => exact ⟨k + 1, by omega, by omega, by go_num, belowDrewN hnx.out⟩
          case measure => simp [intOf]; omega
        · obtain ⟨W2, rfl⟩ : ∃ W2 : World, W2 = wr := ⟨_, rfl⟩
          have Q1 : Hid (Ro W2 a1 A) := P1.out.later hnx.out
          have Q2 : Hid (Ro W2 a2 B) := P2.out.later hnx.out
          have Q3 : Hid (Ro W2 a3 C) := P3.out.later hnx.out
          have Y2 : Hid (Ro W2 y2 G) := Y.out.later hnx.out
          have B9 : Hid (Below w.heap.size w W2) := below_step B8.out hnx.out (Nat.le_refl _)
          clear P1 P2 P3 Y hnx B8
          go_wp2_with fail
          have t9 := sum_any y2 g G W2 (by rw [hg.out]; omega) Y2
          rw [hg.out] at t9
          refine t9.mono ?_
          rintro e w9 ⟨rfl, b9⟩
          have P1 : Hid (Ro w9 a1 A) := Q1.out.later b9
          have P2 : Hid (Ro w9 a2 B) := Q2.out.later b9
          have P3 : Hid (Ro w9 a3 C) := Q3.out.later b9
          have B10 : Hid (Below w.heap.size w w9) := below_step B9.out b9 (Nat.le_refl _)
          clear Q1 Q2 Q3 Y2 b9 B9 t9
          go_wp2_with fail
          refine (sum_any a1 _ A _ (by omega) P1).mono ?_
          rintro e w10 ⟨rfl, b10⟩
          have Q2 : Hid (Ro w10 a2 B) := P2.out.later b10
          have Q3 : Hid (Ro w10 a3 C) := P3.out.later b10
          have B11 : Hid (Below w.heap.size w w10) := below_step B10.out b10 (Nat.le_refl _)
          clear P1 P2 P3 b10 B10
          go_wp2_with fail
          refine (sum_any a2 _ B _ (by omega) Q2).mono ?_
          rintro e w11 ⟨rfl, b11⟩
          have P3 : Hid (Ro w11 a3 C) := Q3.out.later b11
          have B12 : Hid (Below w.heap.size w w11) := below_step B11.out b11 (Nat.le_refl _)
          clear Q2 Q3 b11 B11
          go_wp2_with fail
          refine (sum_any a3 _ C _ (by omega) P3).mono ?_
          rintro e w12 ⟨rfl, b12⟩
          have B13 : Hid (Below w.heap.size w w12) := below_step B12.out b12 (Nat.le_refl _)
          clear P3 b12 B12
          go_wp2_with fail
          go_ret
          refine ⟨?_, B13.out⟩
          refine ret_bool ?_
          simp [hlw.out.sum]

set_option maxRecDepth 100000 in
set_option maxHeartbeats 16000000 in
theorem assoc_all (a b x : Option Addr) (c d f : Nat) (A B C : List (Int × Int)) (w : World) (h16 : A.length + B.length + C.length ≤ 65536) (ha : Hid (Ro w a A)) (hb : Hid (Ro w b B)) (hc : Hid (Ro w x C)) (p g : Nat) (G : List (Int × Int)) (hG : Hid (apR (apR A B) C = G)) (hg : Hid (G.length = g)) (hlw : Hid (Lw A B C G)) (hp : Hid (p = sI A))
    (hgl : A.length ≤ g) (hgt : g ≤ A.length + B.length + C.length) (h0 : Hid (A.length ≤ 0)) (hp1 : Hid (p ≤ 0)) (hd0 : decide ((A.length : Int) - 1 < 0) = true) (hz1 : ((g : Int) == 0) = true) (hz2 : ((A.length : Int) + B.length + C.length == 0) = true)  :
    Calls Try.prog 5 #[.slice a A.length c, .slice b B.length d, .slice x C.length f] w fun e w' => e = .returned (.bool true) ∧ Below w.heap.size w w' := by
  have hl1 := apR_len A B
  have hl2 := apR_len B C
  go_enter Try.func5, Try.ntmps5
  go_wp2_with (go_at_call 14; refine (zz14_yes _ _ _ _ _ _ _ _ _ _ (by omega)).mono ?_; rintro e w' ⟨rfl, hw⟩; obtain rfl := hw.symm; clear hw)
  refine (clone_any a c A _ (by omega) ha).mono ?_
  rintro e w1 ⟨a1, rfl, r1, b1⟩
  have R1 := hide r1
  have B1 := hide b1
  clear r1 b1
  go_wp2_with fail
  refine (clone_any b d B _ (by omega) (hb.out.later B1.out)).mono ?_
  rintro e w2 ⟨a2, rfl, r2, b2⟩
  have P1 : Hid (Ro w2 a1 A) := (R1.out.later b2).ro
  have P2 : Hid (Ro w2 a2 B) := r2.ro
  have P3 : Hid (Ro w2 x C) := (hc.out.later B1.out).later b2
  have B2 : Hid (Below w.heap.size w w2) := below_step B1.out b2 (Nat.le_refl _)
  clear r2 b2 R1 B1 ha hb hc
  go_wp2_with fail
  refine (clone_any x f C _ (by omega) P3).mono ?_
  rintro e w3 ⟨a3, rfl, r3, b3⟩
  have Q1 : Hid (Ro w3 a1 A) := P1.out.later b3
  have Q2 : Hid (Ro w3 a2 B) := P2.out.later b3
  have Q3 : Hid (Ro w3 a3 C) := r3.ro
  have B3 : Hid (Below w.heap.size w w3) := below_step B2.out b3 (Nat.le_refl _)
  clear r3 b3 P1 P2 P3 B2
  go_wp2_with fail
  refine (callAppend_any a1 a2 _ _ A B _ (by omega) (by omega) Q1 Q2).mono ?_
  rintro e w4 ⟨y1, rfl, r4, b4⟩
  have P1 : Hid (Ro w4 a1 A) := Q1.out.later b4
  have P2 : Hid (Ro w4 a2 B) := Q2.out.later b4
  have P3 : Hid (Ro w4 a3 C) := Q3.out.later b4
  have Y1 : Hid (Ro w4 y1 (apR A B)) := r4.ro
  have B4 : Hid (Below w.heap.size w w4) := below_step B3.out b4 (Nat.le_refl _)
  clear r4 b4 Q1 Q2 Q3 B3
  go_wp2_with fail
  have t5 := callAppend_any y1 a3 (apR A B).length C.length (apR A B) C w4 (by omega) (by omega) Y1 P3
  rw [hG.out, hg.out] at t5
  refine t5.mono ?_
  rintro e w5 ⟨y2, rfl, r5, b5⟩
  have Q1 : Hid (Ro w5 a1 A) := P1.out.later b5
  have Q2 : Hid (Ro w5 a2 B) := P2.out.later b5
  have Q3 : Hid (Ro w5 a3 C) := P3.out.later b5
  have Y2 : Hid (Ro w5 y2 G) := r5.ro
  have B5 : Hid (Below w.heap.size w w5) := below_step B4.out b5 (Nat.le_refl _)
  clear r5 b5 P1 P2 P3 B4 Y1 t5
  go_wp2_with fail
  refine (callAppend_any a2 a3 _ _ B C _ (by omega) (by omega) Q2 Q3).mono ?_
  rintro e w6 ⟨y3, rfl, r6, b6⟩
  have P1 : Hid (Ro w6 a1 A) := Q1.out.later b6
  have P2 : Hid (Ro w6 a2 B) := Q2.out.later b6
  have P3 : Hid (Ro w6 a3 C) := Q3.out.later b6
  have Y4 : Hid (Ro w6 y2 G) := Y2.out.later b6
  have Y3 : Hid (Ro w6 y3 (apR B C)) := r6.ro
  have B6 : Hid (Below w.heap.size w w6) := below_step B5.out b6 (Nat.le_refl _)
  clear r6 b6 Q1 Q2 Q3 B5 Y2
  go_wp2_with fail
  have t7 := callAppend_any a1 y3 A.length (apR B C).length A (apR B C) w6 (by omega) (by omega) P1 Y3
  rw [← apR_assoc, hG.out, hg.out] at t7
  refine t7.mono ?_
  rintro e w7 ⟨y5, rfl, r7, b7⟩
  have Q1 : Hid (Ro w7 a1 A) := P1.out.later b7
  have Q2 : Hid (Ro w7 a2 B) := P2.out.later b7
  have Q3 : Hid (Ro w7 a3 C) := P3.out.later b7
  have Y2 : Hid (Ro w7 y2 G) := Y4.out.later b7
  have Y5 : Hid (Ro w7 y5 G) := r7.ro
  have B7 : Hid (Below w.heap.size w w7) := below_step B6.out b7 (Nat.le_refl _)
  clear r7 b7 P1 P2 P3 B6 Y3 Y4 t7
  go_wp2_with fail
  have t8 := same_any y2 y5 g g G w7 (by rw [hg.out]; omega) Y2 Y5
  rw [hg.out] at t8
  refine t8.mono ?_
  rintro e w8 ⟨rfl, b8⟩
  have P1 : Hid (Ro w8 a1 A) := Q1.out.later b8
  have P2 : Hid (Ro w8 a2 B) := Q2.out.later b8
  have P3 : Hid (Ro w8 a3 C) := Q3.out.later b8
  have Y : Hid (Ro w8 y2 G) := Y2.out.later b8
  have B8 : Hid (Below w.heap.size w w8) := below_step B7.out b8 (Nat.le_refl _)
  clear b8 Q1 Q2 Q3 B7 Y2 Y5 t8
  go_wp2_with fail
  go_loopw [10] (fun i wr => ∃ k : Nat, k ≤ p ∧ i = .int .i64 k ∧ Hid (Below w8.heap.size w8 wr)) (fun i _ => p - (intOf i).toNat)
  case atStart => exact ⟨0, Nat.zero_le _, rfl, Below.refl _ _⟩
  case round =>
    obtain ⟨k, hk, rfl, hnx⟩ := hrel
    by_cases hlt : k < p
    · exact absurd hlt (by have := hp1.out; omega)
    · obtain rfl : p = k := by omega
      obtain ⟨W1, rfl⟩ : ∃ W1 : World, W1 = wr := ⟨_, rfl⟩
      go_wp2_with fail
      go_loopw [11] (fun i wr => ∃ k : Nat, p ≤ k ∧ k ≤ g ∧ i = .int .i64 ((k : Int) + 1) ∧ Hid (Below w8.heap.size w8 wr)) (fun i _ => g - (intOf i).toNat)
      case atStart => exact ⟨p, Nat.le_refl _, by (have := hp1.out; omega), (by congr 1; (have := hp1.out; omega)), hnx⟩
      case round =>
        clear hnx
        obtain ⟨k, hk0, hk1, rfl, hnx⟩ := hrel
        by_cases hlt : k + 1 < g
        · have hne := hlw.out.apart k (by have := hp.out; omega) (by rw [hg.out]; omega)
          have hne' : (rR G (k + 1) == rR G k) = false := by simp [hne]
          obtain ⟨b1, o1, rfl, hc1, hc2⟩ := Y.out.2 k (by rw [hg.out]; omega)
          obtain ⟨b2, o2, hx, hd1, hd2⟩ := Y.out.2 (k + 1) (by rw [hg.out]; omega)
          cases hx
          have hc1' := cell_later hnx.out hc1
          have hd1' := cell_later hnx.out hd1
          clear hc1 hc2 hd1 hd2 hne
          go_wp2
          go_quiet (fail)
          go_wp2
          go_roundw
          case rel => exact ⟨k + 1, by omega, by omega, by go_num, belowDrewN hnx.out⟩
          case measure => simp [intOf]; omega
        · obtain ⟨W2, rfl⟩ : ∃ W2 : World, W2 = wr := ⟨_, rfl⟩
          have Q1 : Hid (Ro W2 a1 A) := P1.out.later hnx.out
          have Q2 : Hid (Ro W2 a2 B) := P2.out.later hnx.out
          have Q3 : Hid (Ro W2 a3 C) := P3.out.later hnx.out
          have Y2 : Hid (Ro W2 y2 G) := Y.out.later hnx.out
          have B9 : Hid (Below w.heap.size w W2) := below_step B8.out hnx.out (Nat.le_refl _)
          clear P1 P2 P3 Y hnx B8
          go_wp2_with fail
          have t9 := sum_any y2 g G W2 (by rw [hg.out]; omega) Y2
          rw [hg.out] at t9
          refine t9.mono ?_
          rintro e w9 ⟨rfl, b9⟩
          have P1 : Hid (Ro w9 a1 A) := Q1.out.later b9
          have P2 : Hid (Ro w9 a2 B) := Q2.out.later b9
          have P3 : Hid (Ro w9 a3 C) := Q3.out.later b9
          have B10 : Hid (Below w.heap.size w w9) := below_step B9.out b9 (Nat.le_refl _)
          clear Q1 Q2 Q3 Y2 b9 B9 t9
          go_wp2_with fail
          refine (sum_any a1 _ A _ (by omega) P1).mono ?_
          rintro e w10 ⟨rfl, b10⟩
          have Q2 : Hid (Ro w10 a2 B) := P2.out.later b10
          have Q3 : Hid (Ro w10 a3 C) := P3.out.later b10
          have B11 : Hid (Below w.heap.size w w10) := below_step B10.out b10 (Nat.le_refl _)
          clear P1 P2 P3 b10 B10
          go_wp2_with fail
          refine (sum_any a2 _ B _ (by omega) Q2).mono ?_
          rintro e w11 ⟨rfl, b11⟩
          have P3 : Hid (Ro w11 a3 C) := Q3.out.later b11
          have B12 : Hid (Below w.heap.size w w11) := below_step B11.out b11 (Nat.le_refl _)
          clear Q2 Q3 b11 B11
          go_wp2_with fail
          refine (sum_any a3 _ C _ (by omega) P3).mono ?_
          rintro e w12 ⟨rfl, b12⟩
          have B13 : Hid (Below w.heap.size w w12) := below_step B12.out b12 (Nat.le_refl _)
          clear P3 b12 B12
          go_wp2_with fail
          go_ret
          refine ⟨?_, B13.out⟩
          refine ret_bool ?_
          simp [hlw.out.sum]

end Go.Proofs.Qxb6617377a
