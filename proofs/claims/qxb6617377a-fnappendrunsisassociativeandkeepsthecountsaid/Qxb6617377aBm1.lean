/-
  blockMerge.
-/
import Derived.Test.Qxb6617377aBm0
namespace Go.Proofs.Qxb6617377a
set_option linter.unusedVariables false
set_option linter.unusedSimpArgs false
open Go.RowKit

set_option maxRecDepth 100000 in
set_option maxHeartbeats 16000000 in
theorem block_ne (a b : Option Addr) (c d n p m : Nat) (L M Z G : List (Int × Int)) (w : World) (hp : L.length = n) (hS : n ≤ p + 1) (hS2 : p + 1 ≤ n) (hm : M.length = m) (hZ : Hid (Z = L ++ M)) (hb1 : n ≤ 65536) (hb2 : m ≤ 65536) (ha : Hid (Ro w a L)) (hb : Hid (Ro w b M))
    (hok : Hid (∀ p ∈ Z, -9223372036854775808 ≤ p.2 ∧ p.2 ≤ 9223372036854775807)) (hG : Hid (G = apR [] (Z.drop p))) :
    Calls Try.prog 11 #[.slice a (n) c, .slice b m d] w fun e w' => ∃ a' c', e = .returned (.slice a' (p + G.length) c') ∧ Ro w' a' (Z.take p ++ G) ∧ Below w.heap.size w w' := by
  have hZl : Hid (Z.length = n + m) := by rw [hZ.out, List.length_append, hp, hm]; exact rfl
  obtain ⟨i36, hi, hz0, hz1, hz2⟩ := info_parts info36
  have hmk : ∀ w : World, (Instr.makeSlice 22 (.int .i64 0) (.int .i64 ((n : Int) + m))).run Try.prog w = .ok (.slice (some ⟨w.heap.size, 0, none⟩) 0 (n + m)) (w.alloc (.cells (madeCells #[.int .u32 0, .int .i64 0] ((n + m) * 2)) 36)) := by
    intro w
    have h := run_make (P := Try.prog) w 22 36 i36 zrun Try.underlying22 hi hz0 .i64 .i64 0 ((n : Int) + m) (by omega) (by omega) (by rw [hz2]; omega) (by omega)
    rw [hz1, show ((n : Int) + m).toNat = n + m by omega] at h
    exact h
  go_enter Try.func11, Try.ntmps11
  go_wp2_with fail
  go_loopw [5, 6] (fun x i wr => ∃ k : Nat, k ≤ n ∧ i = .int .i64 k ∧ x = .slice (some ⟨w.heap.size, 0, none⟩) k (n + m) ∧ Hid (Ox wr w.heap.size w.heap.size (n + m) k (L.take k)) ∧ Hid (Below w.heap.size w wr)) (fun _ i _ => n - (intOf i).toNat)
  case atStart => exact ⟨0, Nat.zero_le _, rfl, rfl, Ox.made w _ _ _ (Nat.le_refl _) (by omega) (size_madeCells _ _), (Below.refl _ _).alloc (Nat.le_refl _) _⟩
  case round =>
    obtain ⟨k, hk, rfl, rfl, HX, HB⟩ := hrel
    by_cases hlt : k < n
    · obtain ⟨b1, o1, rfl, hc1, hc2⟩ := ha.out.2 k (by omega)
      have hc1' := cell_later HB.out hc1
      have hc2' := cell_later HB.out hc2
      have hbs := HB.out.size
      clear hc1 hc2 hmk
      go_wp2_with (at_builtin; refine wpList_append_own_spare _ rfl (.tmp 26) (.tmp 31) 22 rfl w.heap.size 36 i36 2 Try.underlying22 hi hz1 w.heap.size k (n + m) _ rfl (HX.out.2.alloc _) ⟨wr.heap.size, 0, none⟩ 1 1 [.int .u32 (rR L k), .int .i64 (rN L k)] rfl rfl ?ac1 ?ac2 (by omega) ?ak)
      case ac1 => intro j u hj; match j, hj with
        | 0, hj => simp at hj; subst hj; exact alloc_fst wr _ _ _
        | 1, hj => simp at hj; subst hj; exact alloc_snd wr _ _ _
      case ac2 => intro u hu; simp at hu; rcases hu with rfl | rfl <;> rfl
      case ak =>
        intro w1 hown hgrow
        have HX1 : Hid (Ox w1 w.heap.size w.heap.size (n + m) (k + 1) (L.take (k + 1))) := by rw [take_step L k (by omega)]; exact Ox.pushed (w := w) HX.out.1 hown
        have HB1 : Hid (Below w.heap.size w w1) := (HB.out.alloc hbs _).grown hgrow (by simp; omega) (fun x hx => by cases hx; exact Nat.le_refl _)
        clear hown hgrow
        go_wp2_with fail
        go_roundw
        case rel => exact ⟨k + 1, by omega, by go_num, rfl, HX1, HB1⟩
        case measure => simp [intOf]; omega
    · obtain rfl : n = k := by omega
      obtain ⟨W1, rfl⟩ : ∃ W1 : World, W1 = wr := ⟨_, rfl⟩
      have HX0 : Hid (Ox W1 w.heap.size w.heap.size (n + m) (n) L) := by have h := HX.out; rw [List.take_of_length_le (by omega)] at h; exact h
      clear HX hlt hk
      go_wp2_with fail
      go_loopw [5, 7] (fun x i wr => ∃ k : Nat, k ≤ m ∧ i = .int .i64 k ∧ x = .slice (some ⟨w.heap.size, 0, none⟩) (n + k) (n + m) ∧ Hid (Ox wr w.heap.size w.heap.size (n + m) (n + k) (L ++ M.take k)) ∧ Hid (Below w.heap.size w wr)) (fun _ i _ => m - (intOf i).toNat)
      case atStart => exact ⟨0, Nat.zero_le _, rfl, rfl, hide (by have h := HX0.out; simpa using h), HB⟩
      case round =>
        clear HX0 HB
        obtain ⟨k, hk, rfl, rfl, HX, HB⟩ := hrel
        by_cases hlt : k < m
        · obtain ⟨b1, o1, rfl, hc1, hc2⟩ := hb.out.2 k (by omega)
          have hc1' := cell_later HB.out hc1
          have hc2' := cell_later HB.out hc2
          have hbs := HB.out.size
          clear hc1 hc2 hmk
          go_wp2_with (at_builtin; refine wpList_append_own_spare _ rfl (.tmp 39) (.tmp 44) 22 rfl w.heap.size 36 i36 2 Try.underlying22 hi hz1 w.heap.size (n + k) (n + m) _ rfl (HX.out.2.alloc _) ⟨wr.heap.size, 0, none⟩ 1 1 [.int .u32 (rR M k), .int .i64 (rN M k)] rfl rfl ?ac1 ?ac2 (by omega) ?ak)
          case ac1 => intro j u hj; match j, hj with
            | 0, hj => simp at hj; subst hj; exact alloc_fst wr _ _ _
            | 1, hj => simp at hj; subst hj; exact alloc_snd wr _ _ _
          case ac2 => intro u hu; simp at hu; rcases hu with rfl | rfl <;> rfl
          case ak =>
            intro w1 hown hgrow
            have HX1 : Hid (Ox w1 w.heap.size w.heap.size (n + m) (n + (k + 1)) (L ++ M.take (k + 1))) := by rw [take_step M k (by omega), ← List.append_assoc]; exact Ox.pushed (w := w) HX.out.1 hown
            have HB1 : Hid (Below w.heap.size w w1) := (HB.out.alloc hbs _).grown hgrow (by simp; omega) (fun x hx => by cases hx; exact Nat.le_refl _)
            clear hown hgrow
            go_wp2_with fail
            go_roundw
            case rel => exact ⟨k + 1, by omega, by go_num, rfl, HX1, HB1⟩
            case measure => simp [intOf]; omega
        · obtain rfl : m = k := by omega
          obtain ⟨W2, rfl⟩ : ∃ W2 : World, W2 = wr := ⟨_, rfl⟩
          have HZ0 : Hid (Ox W2 w.heap.size w.heap.size (n + m) (n + m) Z) := by have h := HX.out; rw [List.take_of_length_le (by omega), ← hZ.out] at h; exact h
          have hbs := HB.out.size
          have hgne := HZ0.out.lt
          clear HX hlt hk
          go_wp2_with fail
          go_loopw [9, 10] (fun x i wr => ∃ k : Nat, k ≤ p ∧ i = .int .i64 k ∧ x = .slice (some ⟨W2.heap.size, 0, none⟩) k (n + m) ∧ Hid (Ox wr w.heap.size W2.heap.size (n + m) k (Z.take k)) ∧ Hid (Ox wr w.heap.size w.heap.size (n + m) (n + m) Z) ∧ Hid (Below w.heap.size w wr)) (fun _ i _ => p - (intOf i).toNat)
          case atStart => exact ⟨0, Nat.zero_le _, rfl, rfl, Ox.made W2 _ _ _ hbs (by omega) (size_madeCells _ _), HZ0.out.alloc _, HB.out.alloc hbs _⟩
          case round =>
            clear HB HZ0
            obtain ⟨k, hk, rfl, rfl, HX, HZ, HB⟩ := hrel
            by_cases hlt : k < p
            · obtain ⟨hc1, hc2⟩ := HZ.out.cells (j := k) (by omega)
              have hbs2 := HB.out.size
              clear hmk
              go_wp2_with (at_builtin; refine wpList_append_own_spare _ rfl (.tmp 59) (.tmp 64) 22 rfl w.heap.size 36 i36 2 Try.underlying22 hi hz1 W2.heap.size k (n + m) _ rfl (HX.out.2.alloc _) ⟨wr.heap.size, 0, none⟩ 1 1 [.int .u32 (rR Z k), .int .i64 (rN Z k)] rfl rfl ?ac1 ?ac2 (by omega) ?ak)
              case ac1 => intro j u hj; match j, hj with
                | 0, hj => simp at hj; subst hj; exact alloc_fst wr _ _ _
                | 1, hj => simp at hj; subst hj; exact alloc_snd wr _ _ _
              case ac2 => intro u hu; simp at hu; rcases hu with rfl | rfl <;> rfl
              case ak =>
                intro w1 hown hgrow
                have HX1 : Hid (Ox w1 w.heap.size W2.heap.size (n + m) (k + 1) (Z.take (k + 1))) := by rw [take_step Z k (by have := hZl.out; omega)]; exact Ox.pushed (w := w) HX.out.1 hown
                have HZ1 : Hid (Ox w1 w.heap.size w.heap.size (n + m) (n + m) Z) := (HZ.out.alloc _).kept hgrow (by omega)
                have HB1 : Hid (Below w.heap.size w w1) := (HB.out.alloc hbs2 _).grown hgrow (by simp; omega) (fun x hx => by cases hx; omega)
                clear hown hgrow
                go_wp2_with fail
                go_roundw
                case rel => exact ⟨k + 1, by omega, by go_num, rfl, HX1, HZ1, HB1⟩
                case measure => simp [intOf]; omega
            · obtain rfl : p = k := by omega
              obtain ⟨W3, rfl⟩ : ∃ W3 : World, W3 = wr := ⟨_, rfl⟩
              clear hlt hk hmk
              go_wp2_with fail
              go_loopw [9, 11] (fun x i wr => ∃ (q t : Nat) (O : List (Int × Int)), p ≤ q ∧ q ≤ n + m ∧ p + t ≤ q ∧ i = .int .i64 q ∧ x = .slice (some ⟨W2.heap.size, 0, none⟩) (p + t) (n + m) ∧ Hid (Ox wr w.heap.size W2.heap.size (n + m) (p + t) (Z.take p ++ O)) ∧ Hid (Ox wr w.heap.size w.heap.size (n + m) (n + m) Z) ∧ Hid (Below w.heap.size w wr) ∧ Hid (BO Z G q O)) (fun _ i _ => n + m - (intOf i).toNat)
              case atStart => exact ⟨p, 0, [], Nat.le_refl _, by omega, Nat.le_refl _, (by first | rfl | (congr 1; omega)), rfl, hide (by have h := HX.out; simpa using h), HZ, HB, (by rw [hG.out]; exact BO.start Z p)⟩
              case round =>
                clear HB HZ HX
                obtain ⟨q, t, O, hq0, hq1, hq2, rfl, rfl, HX, HZ, HB, HO⟩ := hrel
                by_cases hlt : q < n + m
                · obtain ⟨W4, rfl⟩ : ∃ W4 : World, W4 = wr := ⟨_, rfl⟩
                  have hsl := HX.out.1
                  go_wp2_with fail
                  go_loopw [12, 13] (fun x y wr => ∃ (j : Nat) (s : Int), q ≤ j ∧ j ≤ n + m ∧ x = .int .i64 j ∧ y = .int .i64 s ∧ Hid (Ox wr w.heap.size W2.heap.size (n + m) (p + t) (Z.take p ++ O)) ∧ Hid (Ox wr w.heap.size w.heap.size (n + m) (n + m) Z) ∧ Hid (Below w.heap.size w wr) ∧ Hid (BI Z G q j s O)) (fun x _ _ => n + m - (intOf x).toNat)
                  case atStart => exact ⟨q, 0, Nat.le_refl _, hq1, rfl, rfl, HX, HZ, HB, HO.out.inn⟩
                  case round =>
                    clear HB HZ HX HO
                    obtain ⟨j, s, hj0, hj1, rfl, rfl, HX, HZ, HB, HI⟩ := hrel
                    have hzl := hZl.out
                    obtain ⟨hq1', hq2'⟩ := HZ.out.cells (j := q) (by omega)
                    by_cases hjn : j < n + m
                    · have hd : decide ((j : Int) < (n : Int) + m) = true := by simp; omega
                      obtain ⟨hc1, hc2⟩ := HZ.out.cells (j := j) (by omega)
                      by_cases he : rR Z j = rR Z q
                      · have he' : (rR Z j == rR Z q) = true := by simp [he]
                        have HI1 : Hid (BI Z G q (j + 1) (wrap64 (s + rN Z j)) O) := HI.out.step (by omega) he (okA hok.out (by omega))
                        clear he
                        go_wp2
                        go_quiet (fail)
                        have e1 : (wr.drewN nq).cell? ⟨w.heap.size, j * 2 + 1, none⟩ = some (.int .i64 (rN Z j)) := hc2
                        have K1 : Hid (Ox (wr.drewN nq) w.heap.size W2.heap.size (n + m) (p + t) (Z.take p ++ O)) := HX
                        have K2 : Hid (Ox (wr.drewN nq) w.heap.size w.heap.size (n + m) (n + m) Z) := HZ
                        have K3 : Hid (Below w.heap.size w (wr.drewN nq)) := belowDrewN HB.out
                        clear HX HZ HB hc1 hc2 hq1' hq2'
                        generalize wr.drewN nq = W5 at e1 K1 K2 K3 ⊢
                        go_wp2
                        go_roundw
                        case rel => exact ⟨j + 1, _, by omega, by omega, by go_num, rfl, K1, K2, K3, HI1⟩
                        case measure => simp [intOf]; omega
                      · have he' : (rR Z j == rR Z q) = false := by simp [he]
                        have hqj : q < j := by rcases Nat.lt_or_ge q j with h | h; exact h; exact absurd (by rw [show j = q by omega]) he
                        have HO1 : Hid (BO Z G j (O ++ [(rR Z q, s)])) := HI.out.out hqj (fun _ e => he e.symm)
                        clear HI
                        go_wp2
                        go_quiet (fail)
                        have e1 : (wr.drewN nq).cell? ⟨w.heap.size, q * 2, none⟩ = some (.int .u32 (rR Z q)) := hq1'
                        have K1 : Hid (Ox (wr.drewN nq) w.heap.size W2.heap.size (n + m) (p + t) (Z.take p ++ O)) := HX
                        have K2 : Hid (Ox (wr.drewN nq) w.heap.size w.heap.size (n + m) (n + m) Z) := HZ
                        have K3 : Hid (Below w.heap.size w (wr.drewN nq)) := belowDrewN HB.out
                        clear HX HZ HB hq1' hq2'
                        generalize wr.drewN nq = W5 at e1 K1 K2 K3 ⊢
                        have hbs3 := K3.out.size
                        go_wp2_with (at_builtin; refine wpList_append_own_spare _ rfl (.tmp 98) (.tmp 106) 22 rfl w.heap.size 36 i36 2 Try.underlying22 hi hz1 W2.heap.size (p + t) (n + m) _ rfl (K1.out.2.alloc _) ⟨W5.heap.size, 0, none⟩ 1 1 [.int .u32 (rR Z q), .int .i64 s] rfl rfl ?ac1 ?ac2 (by omega) ?ak)
                        case ac1 => intro j u hj; match j, hj with
                          | 0, hj => simp at hj; subst hj; exact alloc_fst W5 _ _ _
                          | 1, hj => simp at hj; subst hj; exact alloc_snd W5 _ _ _
                        case ac2 => intro u hu; simp at hu; rcases hu with rfl | rfl <;> rfl
                        case ak =>
                          intro w1 hown hgrow
                          have HX1 : Hid (Ox w1 w.heap.size W2.heap.size (n + m) (p + (t + 1)) (Z.take p ++ (O ++ [(rR Z q, s)]))) := by rw [← List.append_assoc]; exact Ox.pushed (w := w) K1.out.1 hown
                          have HZ1 : Hid (Ox w1 w.heap.size w.heap.size (n + m) (n + m) Z) := (K2.out.alloc _).kept hgrow (by omega)
                          have HB1 : Hid (Below w.heap.size w w1) := (K3.out.alloc hbs3 _).grown hgrow (by simp; omega) (fun x hx => by cases hx; omega)
                          clear hown hgrow
                          go_wp2_with fail
                          go_roundw
                          case rel => exact ⟨j, t + 1, O ++ [(rR Z q, s)], by omega, by omega, by omega, by go_num, rfl, HX1, HZ1, HB1, HO1⟩
                          case measure => simp [intOf]; omega
                    · have hd : decide ((j : Int) < (n : Int) + m) = false := by simp; omega
                      have hqj : q < j := by omega
                      have HO1 : Hid (BO Z G j (O ++ [(rR Z q, s)])) := HI.out.out hqj (fun h => by omega)
                      clear HI
                      go_wp2
                      go_quiet (fail)
                      have e1 : (wr.drewN nq).cell? ⟨w.heap.size, q * 2, none⟩ = some (.int .u32 (rR Z q)) := hq1'
                      have K1 : Hid (Ox (wr.drewN nq) w.heap.size W2.heap.size (n + m) (p + t) (Z.take p ++ O)) := HX
                      have K2 : Hid (Ox (wr.drewN nq) w.heap.size w.heap.size (n + m) (n + m) Z) := HZ
                      have K3 : Hid (Below w.heap.size w (wr.drewN nq)) := belowDrewN HB.out
                      clear HX HZ HB hq1' hq2'
                      generalize wr.drewN nq = W5 at e1 K1 K2 K3 ⊢
                      have hbs3 := K3.out.size
                      go_wp2_with (at_builtin; refine wpList_append_own_spare _ rfl (.tmp 98) (.tmp 106) 22 rfl w.heap.size 36 i36 2 Try.underlying22 hi hz1 W2.heap.size (p + t) (n + m) _ rfl (K1.out.2.alloc _) ⟨W5.heap.size, 0, none⟩ 1 1 [.int .u32 (rR Z q), .int .i64 s] rfl rfl ?ac1 ?ac2 (by omega) ?ak)
                      case ac1 => intro j u hj; match j, hj with
                        | 0, hj => simp at hj; subst hj; exact alloc_fst W5 _ _ _
                        | 1, hj => simp at hj; subst hj; exact alloc_snd W5 _ _ _
                      case ac2 => intro u hu; simp at hu; rcases hu with rfl | rfl <;> rfl
                      case ak =>
                        intro w1 hown hgrow
                        have HX1 : Hid (Ox w1 w.heap.size W2.heap.size (n + m) (p + (t + 1)) (Z.take p ++ (O ++ [(rR Z q, s)]))) := by rw [← List.append_assoc]; exact Ox.pushed (w := w) K1.out.1 hown
                        have HZ1 : Hid (Ox w1 w.heap.size w.heap.size (n + m) (n + m) Z) := (K2.out.alloc _).kept hgrow (by omega)
                        have HB1 : Hid (Below w.heap.size w w1) := (K3.out.alloc hbs3 _).grown hgrow (by simp; omega) (fun x hx => by cases hx; omega)
                        clear hown hgrow
                        go_wp2_with fail
                        go_roundw
                        case rel => exact ⟨j, t + 1, O ++ [(rR Z q, s)], by omega, by omega, by omega, by go_num, rfl, HX1, HZ1, HB1, HO1⟩
                        case measure => simp [intOf]; omega
                · obtain rfl : n + m = q := by omega
                  have hOG : O = G := HO.out.stop (by have := hZl.out; omega)
                  subst hOG
                  have htl : O.length = t := by have h1 := HX.out.1; rw [List.length_append, List.length_take, hZl.out] at h1; omega
                  go_wp2
                  go_ret
                  subst htl
                  exact ⟨_, _, rfl, HX.out.ro, HB.out⟩

end Go.Proofs.Qxb6617377a
