/-
  FnAppendRunsMergesEqualNeighboursAtAnyCut, walked.
-/
import Derived.Test.Qxb6617377aMg0
namespace Go.Proofs.Qxb6617377a
set_option linter.unusedVariables false
set_option linter.unusedSimpArgs false
open Go.RowKit

theorem Ro.take {w : World} {a : Option Addr} {L : List (Int × Int)} (h : Ro w a L) (q : Nat) : Ro w a (L.take q) := by
  refine ⟨fun e => by rw [h.1 e]; simp, fun i hi => ?_⟩
  rw [List.length_take] at hi
  obtain ⟨b, o, e, c1, c2⟩ := h.2 i (by omega)
  have e1 : rR (L.take q) i = rR L i := by simp [rR, List.getD, List.getElem?_take, show i < q by omega]
  have e2 : rN (L.take q) i = rN L i := by simp [rN, List.getD, List.getElem?_take, show i < q by omega]
  rw [e1, e2]
  exact ⟨b, o, e, c1, c2⟩
theorem Ro.drop {w : World} {a : Option Addr} {L : List (Int × Int)} (h : Ro w a L) (q : Nat) : Ro w (a.map (·.add (q * 2))) (L.drop q) := by
  refine ⟨fun en => ?_, fun i hi => ?_⟩
  · cases a with
    | none => rw [h.1 rfl]; simp
    | some x => cases en
  · rw [List.length_drop] at hi
    obtain ⟨b, o, rfl, c1, c2⟩ := h.2 (q + i) (by omega)
    have e1 : rR (L.drop q) i = rR L (q + i) := by simp [rR, List.getD, List.getElem?_drop]
    have e2 : rN (L.drop q) i = rN L (q + i) := by simp [rN, List.getD, List.getElem?_drop]
    rw [e1, e2]
    refine ⟨b, o + q * 2, by simp [Addr.add], ?_, ?_⟩
    · rw [show o + q * 2 + i * 2 = o + (q + i) * 2 by omega]; exact c1
    · rw [show o + q * 2 + i * 2 + 1 = o + (q + i) * 2 + 1 by omega]; exact c2
theorem Ro.nil (w : World) (a : Option Addr) : Ro w a [] := ⟨fun _ => rfl, fun i hi => by simp at hi⟩

set_option maxRecDepth 100000 in
set_option maxHeartbeats 8000000 in
theorem merge_mid (a b : Option Addr) (c d : Nat) (q : Nat) (L M : List (Int × Int)) (w : World) (h16 : L.length + M.length ≤ 65536) (hq : q < M.length) (ha : Hid (Ro w a L)) (hb : Hid (Ro w b M))
    (h1 : Hid (∀ p ∈ L, -9223372036854775808 ≤ p.2 ∧ p.2 ≤ 9223372036854775807)) (h2 : Hid (∀ p ∈ M, -9223372036854775808 ≤ p.2 ∧ p.2 ≤ 9223372036854775807)) :
    Calls Try.prog 4 #[.slice a L.length c, .slice b M.length d, .int .i64 q] w fun e w' => e = .returned (.bool true) ∧ Below w.heap.size w w' := by
  go_enter Try.func4, Try.ntmps4
  go_wp2_with (go_at_call 10; refine (zz10_yes _ _ _ _ _ _ _ _ (by omega)).mono ?_; rintro e w' ⟨rfl, hw⟩; obtain rfl := hw.symm; clear hw)
  refine (clone_any a c L _ (by omega) ha).mono ?_
  rintro e w1 ⟨a1, rfl, r1, b1⟩
  have R1 := hide r1
  have B1 := hide b1
  clear r1 b1
  go_wp2_with fail
  refine (clone_any b d M _ (by omega) (hb.out.later B1.out)).mono ?_
  rintro e w2 ⟨a2, rfl, r2, b2⟩
  have A1 : Hid (Ro w2 a1 L) := (R1.out.later b2).ro
  have A2 : Hid (Ro w2 a2 M) := r2.ro
  have B2 : Hid (Below w.heap.size w w2) := below_step B1.out b2 (Nat.le_refl _)
  clear r2 b2 R1 B1 ha hb
  go_wp2_with fail
  refine (block_any a1 a2 _ _ L M _ (by omega) (by omega) A1 A2 h1 h2).mono ?_
  rintro e w3 ⟨x1, c1, rfl, r3, b3⟩
  have X1 := hide r3
  have C1 : Hid (Ro w3 a1 L) := A1.out.later b3
  have C2 : Hid (Ro w3 a2 M) := A2.out.later b3
  have B3 : Hid (Below w.heap.size w w3) := below_step B2.out b3 (Nat.le_refl _)
  clear r3 b3 A1 A2 B2 h1 h2
  go_wp2_with fail
  refine (callAppend_any a1 a2 _ _ L M _ (by omega) (by omega) C1 C2).mono ?_
  rintro e w4 ⟨x2, rfl, r4, b4⟩
  have Y1 : Hid (Ro w4 x1 (apR L M)) := X1.out.later b4
  have Y2 : Hid (Ro w4 x2 (apR L M)) := r4.ro
  have D1 : Hid (Ro w4 a1 L) := C1.out.later b4
  have D2 : Hid (Ro w4 a2 M) := C2.out.later b4
  have B4 : Hid (Below w.heap.size w w4) := below_step B3.out b4 (Nat.le_refl _)
  clear r4 b4 C1 C2 B3 X1
  go_wp2_with fail
  have ht : (M.take q).length = q := by rw [List.length_take]; omega
  have t5 := callAppend_any a1 a2 L.length M.length L (M.take q) w4 (by omega) (by omega) D1 (D2.out.take q)
  rw [ht] at t5
  refine t5.mono ?_
  rintro e w5 ⟨x3, rfl, r5, b5⟩
  have E1 : Hid (Ro w5 x1 (apR L M)) := Y1.out.later b5
  have E2 : Hid (Ro w5 x2 (apR L M)) := Y2.out.later b5
  have E3 : Hid (Ro w5 x3 (apR L (M.take q))) := r5.ro
  have E4 : Hid (Ro w5 a2 M) := D2.out.later b5
  have B5 : Hid (Below w.heap.size w w5) := below_step B4.out b5 (Nat.le_refl _)
  have hl1 := (apR_len L (M.take q)).2
  have hl2 := (apR_len L M).2
  clear r5 b5 D1 D2 B4 Y1 Y2 t5
  go_wp2_with fail
  have t6 := callAppend_any x3 (a2.map (·.add (q * 2))) (apR L (M.take q)).length (M.length - q) (apR L (M.take q)) (M.drop q) w5 (by omega) (by rw [List.length_drop]; omega) E3 (E4.out.drop q)
  rw [List.length_drop, ← apR_app, List.take_append_drop] at t6
  refine t6.mono ?_
  rintro e w6 ⟨x4, rfl, r6, b6⟩
  have F1 : Hid (Ro w6 x1 (apR L M)) := E1.out.later b6
  have F2 : Hid (Ro w6 x2 (apR L M)) := E2.out.later b6
  have F3 : Hid (Ro w6 x4 (apR L M)) := r6.ro
  have B6 : Hid (Below w.heap.size w w6) := below_step B5.out b6 (Nat.le_refl _)
  clear r6 b6 E1 E2 E3 E4 B5 t6
  go_wp2_with fail
  refine (same_any x2 x1 _ _ (apR L M) _ (by omega) F2 F1).mono ?_
  rintro e w7 ⟨rfl, b7⟩
  have G1 : Hid (Ro w7 x1 (apR L M)) := F1.out.later b7
  have G3 : Hid (Ro w7 x4 (apR L M)) := F3.out.later b7
  have B7 : Hid (Below w.heap.size w w7) := below_step B6.out b7 (Nat.le_refl _)
  clear b7 F1 F2 F3 B6
  go_wp2_with fail
  refine (same_any x4 x1 _ _ (apR L M) _ (by omega) G3 G1).mono ?_
  rintro e w8 ⟨rfl, b8⟩
  have B8 : Hid (Below w.heap.size w w8) := below_step B7.out b8 (Nat.le_refl _)
  clear b8 G1 G3 B7
  go_wp2_with fail
  go_ret
  exact ⟨rfl, B8.out⟩

set_option maxRecDepth 100000 in
set_option maxHeartbeats 8000000 in
theorem merge_end (a b : Option Addr) (c d : Nat)  (L M : List (Int × Int)) (w : World) (h16 : L.length + M.length ≤ 65536)  (ha : Hid (Ro w a L)) (hb : Hid (Ro w b M))
    (h1 : Hid (∀ p ∈ L, -9223372036854775808 ≤ p.2 ∧ p.2 ≤ 9223372036854775807)) (h2 : Hid (∀ p ∈ M, -9223372036854775808 ≤ p.2 ∧ p.2 ≤ 9223372036854775807)) :
    Calls Try.prog 4 #[.slice a L.length c, .slice b M.length d, .int .i64 M.length] w fun e w' => e = .returned (.bool true) ∧ Below w.heap.size w w' := by
  go_enter Try.func4, Try.ntmps4
  go_wp2_with (go_at_call 10; refine (zz10_yes _ _ _ _ _ _ _ _ (by omega)).mono ?_; rintro e w' ⟨rfl, hw⟩; obtain rfl := hw.symm; clear hw)
  refine (clone_any a c L _ (by omega) ha).mono ?_
  rintro e w1 ⟨a1, rfl, r1, b1⟩
  have R1 := hide r1
  have B1 := hide b1
  clear r1 b1
  go_wp2_with fail
  refine (clone_any b d M _ (by omega) (hb.out.later B1.out)).mono ?_
  rintro e w2 ⟨a2, rfl, r2, b2⟩
  have A1 : Hid (Ro w2 a1 L) := (R1.out.later b2).ro
  have A2 : Hid (Ro w2 a2 M) := r2.ro
  have B2 : Hid (Below w.heap.size w w2) := below_step B1.out b2 (Nat.le_refl _)
  clear r2 b2 R1 B1 ha hb
  go_wp2_with fail
  refine (block_any a1 a2 _ _ L M _ (by omega) (by omega) A1 A2 h1 h2).mono ?_
  rintro e w3 ⟨x1, c1, rfl, r3, b3⟩
  have X1 := hide r3
  have C1 : Hid (Ro w3 a1 L) := A1.out.later b3
  have C2 : Hid (Ro w3 a2 M) := A2.out.later b3
  have B3 : Hid (Below w.heap.size w w3) := below_step B2.out b3 (Nat.le_refl _)
  clear r3 b3 A1 A2 B2 h1 h2
  go_wp2_with fail
  refine (callAppend_any a1 a2 _ _ L M _ (by omega) (by omega) C1 C2).mono ?_
  rintro e w4 ⟨x2, rfl, r4, b4⟩
  have Y1 : Hid (Ro w4 x1 (apR L M)) := X1.out.later b4
  have Y2 : Hid (Ro w4 x2 (apR L M)) := r4.ro
  have D1 : Hid (Ro w4 a1 L) := C1.out.later b4
  have D2 : Hid (Ro w4 a2 M) := C2.out.later b4
  have B4 : Hid (Below w.heap.size w w4) := below_step B3.out b4 (Nat.le_refl _)
  clear r4 b4 C1 C2 B3 X1
  go_wp2_with fail
  have t5 := callAppend_any a1 a2 L.length M.length L M w4 (by omega) (by omega) D1 D2
  refine t5.mono ?_
  rintro e w5 ⟨x3, rfl, r5, b5⟩
  have E1 : Hid (Ro w5 x1 (apR L M)) := Y1.out.later b5
  have E2 : Hid (Ro w5 x2 (apR L M)) := Y2.out.later b5
  have E3 : Hid (Ro w5 x3 (apR L M)) := r5.ro
  have E4 : Hid (Ro w5 a2 M) := D2.out.later b5
  have B5 : Hid (Below w.heap.size w w5) := below_step B4.out b5 (Nat.le_refl _)
  have hl1 := (apR_len L M).2
  have hl2 := (apR_len L M).2
  clear r5 b5 D1 D2 B4 Y1 Y2 t5
  go_wp2_with fail
  have t6 := callAppend_any x3 a2 (apR L M).length 0 (apR L M) [] w5 (by omega) (Nat.zero_le _) E3 (Ro.nil _ _)
  rw [apR_nil] at t6
  refine t6.mono ?_
  rintro e w6 ⟨x4, rfl, r6, b6⟩
  have F1 : Hid (Ro w6 x1 (apR L M)) := E1.out.later b6
  have F2 : Hid (Ro w6 x2 (apR L M)) := E2.out.later b6
  have F3 : Hid (Ro w6 x4 (apR L M)) := r6.ro
  have B6 : Hid (Below w.heap.size w w6) := below_step B5.out b6 (Nat.le_refl _)
  clear r6 b6 E1 E2 E3 E4 B5 t6
  go_wp2_with fail
  refine (same_any x2 x1 _ _ (apR L M) _ (by omega) F2 F1).mono ?_
  rintro e w7 ⟨rfl, b7⟩
  have G1 : Hid (Ro w7 x1 (apR L M)) := F1.out.later b7
  have G3 : Hid (Ro w7 x4 (apR L M)) := F3.out.later b7
  have B7 : Hid (Below w.heap.size w w7) := below_step B6.out b7 (Nat.le_refl _)
  clear b7 F1 F2 F3 B6
  go_wp2_with fail
  refine (same_any x4 x1 _ _ (apR L M) _ (by omega) G3 G1).mono ?_
  rintro e w8 ⟨rfl, b8⟩
  have B8 : Hid (Below w.heap.size w w8) := below_step B7.out b8 (Nat.le_refl _)
  clear b8 G1 G3 B7
  go_wp2_with fail
  go_ret
  exact ⟨rfl, B8.out⟩

set_option maxRecDepth 100000 in
set_option maxHeartbeats 8000000 in
theorem merge_neg (a b : Option Addr) (c d : Nat) (k : Int) (L M : List (Int × Int)) (w : World) (h16 : L.length + M.length ≤ 65536) (hk : k < 0) (ha : Hid (Ro w a L)) (hb : Hid (Ro w b M))
    (h1 : Hid (∀ p ∈ L, -9223372036854775808 ≤ p.2 ∧ p.2 ≤ 9223372036854775807)) (h2 : Hid (∀ p ∈ M, -9223372036854775808 ≤ p.2 ∧ p.2 ≤ 9223372036854775807)) :
    Calls Try.prog 4 #[.slice a L.length c, .slice b M.length d, .int .i64 k] w fun e w' => e = .returned (.bool true) ∧ Below w.heap.size w w' := by
  go_enter Try.func4, Try.ntmps4
  go_wp2_with (go_at_call 10; refine (zz10_yes _ _ _ _ _ _ _ _ (by omega)).mono ?_; rintro e w' ⟨rfl, hw⟩; obtain rfl := hw.symm; clear hw)
  refine (clone_any a c L _ (by omega) ha).mono ?_
  rintro e w1 ⟨a1, rfl, r1, b1⟩
  have R1 := hide r1
  have B1 := hide b1
  clear r1 b1
  go_wp2_with fail
  refine (clone_any b d M _ (by omega) (hb.out.later B1.out)).mono ?_
  rintro e w2 ⟨a2, rfl, r2, b2⟩
  have A1 : Hid (Ro w2 a1 L) := (R1.out.later b2).ro
  have A2 : Hid (Ro w2 a2 M) := r2.ro
  have B2 : Hid (Below w.heap.size w w2) := below_step B1.out b2 (Nat.le_refl _)
  clear r2 b2 R1 B1 ha hb
  go_wp2_with fail
  refine (block_any a1 a2 _ _ L M _ (by omega) (by omega) A1 A2 h1 h2).mono ?_
  rintro e w3 ⟨x1, c1, rfl, r3, b3⟩
  have X1 := hide r3
  have C1 : Hid (Ro w3 a1 L) := A1.out.later b3
  have C2 : Hid (Ro w3 a2 M) := A2.out.later b3
  have B3 : Hid (Below w.heap.size w w3) := below_step B2.out b3 (Nat.le_refl _)
  clear r3 b3 A1 A2 B2 h1 h2
  go_wp2_with fail
  refine (callAppend_any a1 a2 _ _ L M _ (by omega) (by omega) C1 C2).mono ?_
  rintro e w4 ⟨x2, rfl, r4, b4⟩
  have Y1 : Hid (Ro w4 x1 (apR L M)) := X1.out.later b4
  have Y2 : Hid (Ro w4 x2 (apR L M)) := r4.ro
  have D1 : Hid (Ro w4 a1 L) := C1.out.later b4
  have D2 : Hid (Ro w4 a2 M) := C2.out.later b4
  have B4 : Hid (Below w.heap.size w w4) := below_step B3.out b4 (Nat.le_refl _)
  clear r4 b4 C1 C2 B3 X1
  go_wp2_with fail
  have t5 := callAppend_any a1 a2 L.length M.length L M w4 (by omega) (by omega) D1 D2
  refine t5.mono ?_
  rintro e w5 ⟨x3, rfl, r5, b5⟩
  have E1 : Hid (Ro w5 x1 (apR L M)) := Y1.out.later b5
  have E2 : Hid (Ro w5 x2 (apR L M)) := Y2.out.later b5
  have E3 : Hid (Ro w5 x3 (apR L M)) := r5.ro
  have E4 : Hid (Ro w5 a2 M) := D2.out.later b5
  have B5 : Hid (Below w.heap.size w w5) := below_step B4.out b5 (Nat.le_refl _)
  have hl1 := (apR_len L M).2
  have hl2 := (apR_len L M).2
  clear r5 b5 D1 D2 B4 Y1 Y2 t5
  go_wp2_with fail
  have t6 := callAppend_any x3 a2 (apR L M).length 0 (apR L M) [] w5 (by omega) (Nat.zero_le _) E3 (Ro.nil _ _)
  rw [apR_nil] at t6
  refine t6.mono ?_
  rintro e w6 ⟨x4, rfl, r6, b6⟩
  have F1 : Hid (Ro w6 x1 (apR L M)) := E1.out.later b6
  have F2 : Hid (Ro w6 x2 (apR L M)) := E2.out.later b6
  have F3 : Hid (Ro w6 x4 (apR L M)) := r6.ro
  have B6 : Hid (Below w.heap.size w w6) := below_step B5.out b6 (Nat.le_refl _)
  clear r6 b6 E1 E2 E3 E4 B5 t6
  go_wp2_with fail
  refine (same_any x2 x1 _ _ (apR L M) _ (by omega) F2 F1).mono ?_
  rintro e w7 ⟨rfl, b7⟩
  have G1 : Hid (Ro w7 x1 (apR L M)) := F1.out.later b7
  have G3 : Hid (Ro w7 x4 (apR L M)) := F3.out.later b7
  have B7 : Hid (Below w.heap.size w w7) := below_step B6.out b7 (Nat.le_refl _)
  clear b7 F1 F2 F3 B6
  go_wp2_with fail
  refine (same_any x4 x1 _ _ (apR L M) _ (by omega) G3 G1).mono ?_
  rintro e w8 ⟨rfl, b8⟩
  have B8 : Hid (Below w.heap.size w w8) := below_step B7.out b8 (Nat.le_refl _)
  clear b8 G1 G3 B7
  go_wp2_with fail
  go_ret
  exact ⟨rfl, B8.out⟩

set_option maxRecDepth 100000 in
set_option maxHeartbeats 8000000 in
theorem merge_big (a b : Option Addr) (c d : Nat) (k : Int) (L M : List (Int × Int)) (w : World) (h16 : L.length + M.length ≤ 65536) (hk : (M.length : Int) < k) (ha : Hid (Ro w a L)) (hb : Hid (Ro w b M))
    (h1 : Hid (∀ p ∈ L, -9223372036854775808 ≤ p.2 ∧ p.2 ≤ 9223372036854775807)) (h2 : Hid (∀ p ∈ M, -9223372036854775808 ≤ p.2 ∧ p.2 ≤ 9223372036854775807)) :
    Calls Try.prog 4 #[.slice a L.length c, .slice b M.length d, .int .i64 k] w fun e w' => e = .returned (.bool true) ∧ Below w.heap.size w w' := by
  go_enter Try.func4, Try.ntmps4
  go_wp2_with (go_at_call 10; refine (zz10_yes _ _ _ _ _ _ _ _ (by omega)).mono ?_; rintro e w' ⟨rfl, hw⟩; obtain rfl := hw.symm; clear hw)
  refine (clone_any a c L _ (by omega) ha).mono ?_
  rintro e w1 ⟨a1, rfl, r1, b1⟩
  have R1 := hide r1
  have B1 := hide b1
  clear r1 b1
  go_wp2_with fail
  refine (clone_any b d M _ (by omega) (hb.out.later B1.out)).mono ?_
  rintro e w2 ⟨a2, rfl, r2, b2⟩
  have A1 : Hid (Ro w2 a1 L) := (R1.out.later b2).ro
  have A2 : Hid (Ro w2 a2 M) := r2.ro
  have B2 : Hid (Below w.heap.size w w2) := below_step B1.out b2 (Nat.le_refl _)
  clear r2 b2 R1 B1 ha hb
  go_wp2_with fail
  refine (block_any a1 a2 _ _ L M _ (by omega) (by omega) A1 A2 h1 h2).mono ?_
  rintro e w3 ⟨x1, c1, rfl, r3, b3⟩
  have X1 := hide r3
  have C1 : Hid (Ro w3 a1 L) := A1.out.later b3
  have C2 : Hid (Ro w3 a2 M) := A2.out.later b3
  have B3 : Hid (Below w.heap.size w w3) := below_step B2.out b3 (Nat.le_refl _)
  clear r3 b3 A1 A2 B2 h1 h2
  go_wp2_with fail
  refine (callAppend_any a1 a2 _ _ L M _ (by omega) (by omega) C1 C2).mono ?_
  rintro e w4 ⟨x2, rfl, r4, b4⟩
  have Y1 : Hid (Ro w4 x1 (apR L M)) := X1.out.later b4
  have Y2 : Hid (Ro w4 x2 (apR L M)) := r4.ro
  have D1 : Hid (Ro w4 a1 L) := C1.out.later b4
  have D2 : Hid (Ro w4 a2 M) := C2.out.later b4
  have B4 : Hid (Below w.heap.size w w4) := below_step B3.out b4 (Nat.le_refl _)
  clear r4 b4 C1 C2 B3 X1
  go_wp2_with fail
  have t5 := callAppend_any a1 a2 L.length M.length L M w4 (by omega) (by omega) D1 D2
  refine t5.mono ?_
  rintro e w5 ⟨x3, rfl, r5, b5⟩
  have E1 : Hid (Ro w5 x1 (apR L M)) := Y1.out.later b5
  have E2 : Hid (Ro w5 x2 (apR L M)) := Y2.out.later b5
  have E3 : Hid (Ro w5 x3 (apR L M)) := r5.ro
  have E4 : Hid (Ro w5 a2 M) := D2.out.later b5
  have B5 : Hid (Below w.heap.size w w5) := below_step B4.out b5 (Nat.le_refl _)
  have hl1 := (apR_len L M).2
  have hl2 := (apR_len L M).2
  clear r5 b5 D1 D2 B4 Y1 Y2 t5
  go_wp2_with fail
  have t6 := callAppend_any x3 a2 (apR L M).length 0 (apR L M) [] w5 (by omega) (Nat.zero_le _) E3 (Ro.nil _ _)
  rw [apR_nil] at t6
  refine t6.mono ?_
  rintro e w6 ⟨x4, rfl, r6, b6⟩
  have F1 : Hid (Ro w6 x1 (apR L M)) := E1.out.later b6
  have F2 : Hid (Ro w6 x2 (apR L M)) := E2.out.later b6
  have F3 : Hid (Ro w6 x4 (apR L M)) := r6.ro
  have B6 : Hid (Below w.heap.size w w6) := below_step B5.out b6 (Nat.le_refl _)
  clear r6 b6 E1 E2 E3 E4 B5 t6
  go_wp2_with fail
  refine (same_any x2 x1 _ _ (apR L M) _ (by omega) F2 F1).mono ?_
  rintro e w7 ⟨rfl, b7⟩
  have G1 : Hid (Ro w7 x1 (apR L M)) := F1.out.later b7
  have G3 : Hid (Ro w7 x4 (apR L M)) := F3.out.later b7
  have B7 : Hid (Below w.heap.size w w7) := below_step B6.out b7 (Nat.le_refl _)
  clear b7 F1 F2 F3 B6
  go_wp2_with fail
  refine (same_any x4 x1 _ _ (apR L M) _ (by omega) G3 G1).mono ?_
  rintro e w8 ⟨rfl, b8⟩
  have B8 : Hid (Below w.heap.size w w8) := below_step B7.out b8 (Nat.le_refl _)
  clear b8 G1 G3 B7
  go_wp2_with fail
  go_ret
  exact ⟨rfl, B8.out⟩

end Go.Proofs.Qxb6617377a
