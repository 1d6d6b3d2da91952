import Derived.Test.Qxb6617377aW3
import Derived.Test.Qxb6617377aHash
namespace Go.Proofs.Qxb6617377a
set_option linter.unusedVariables false
set_option linter.unusedSimpArgs false
open Go.RowKit

theorem hs1_bd (h r n : Int) : 0 ≤ hs1 h r n ∧ hs1 h r n ≤ 18446744073709551615 := by
  unfold hs1
  rw [IntKind.wrap_u64]
  omega

theorem hsh_take (lv : Int) (L : List (Int × Int)) (k : Nat) (h : k < L.length) : hsh lv (L.take (k + 1)) = hs1 (hsh lv (L.take k)) (rR L k) (rN L k) := by
  unfold hsh
  rw [List.take_succ_eq_append_getElem h, List.foldl_append]
  simp [rR, rN, List.getD, h]

theorem rR_bd {L : List (Int × Int)} (h : okL L) (k : Nat) : 0 ≤ rR L k ∧ rR L k ≤ 4294967295 := by
  unfold rR
  by_cases hk : k < L.length
  · simp only [List.getD, List.getElem?_eq_getElem hk, Option.getD_some]
    exact h _ (List.getElem_mem hk)
  · simp [List.getD, List.getElem?_eq_none (Nat.le_of_not_lt hk)]

set_option maxHeartbeats 2000000 in
theorem recent_any (a : Option Addr) (c : Nat) (L : List (Int × Int)) (lv : Int) (w : World) (hlen : L.length ≤ 1048576) (hl : 0 ≤ lv) (hl2 : lv ≤ 255)
    (hs : Hid (Rs w 46 a L)) (hL : Hid (okL L)) :
    Calls Try.prog 16 #[.int .u8 lv, .slice a L.length c] w fun e w' => e = .returned (.int .i64 (slot lv L)) ∧ Below w.heap.size w w' := by
  go_enter Try.func16, Try.ntmps16
  go_wp2
  go_loopw [5, 12] (fun h i wr => ∃ (k : Nat) (x : Int), k ≤ L.length ∧ i = .int .i64 k ∧ h = .int .u64 x ∧ 0 ≤ x ∧ x ≤ 18446744073709551615 ∧ Hid (x = hsh lv (L.take k)) ∧ Hid (Below w.heap.size w wr)) (fun _ i _ => L.length - (intOf i).toNat)
  case atStart => exact ⟨0, lv, Nat.zero_le _, rfl, rfl, hl, by omega, rfl, Below.refl _ _⟩
  case round =>
    obtain ⟨k, x, hk, rfl, rfl, h0, h1, HX, hnx⟩ := hrel
    by_cases hlt : k < L.length
    · obtain ⟨b, o, hx, hc1, hc2⟩ := hs.out.ro.2 k hlt
      subst hx
      have hc1' := cell_later hnx.out hc1
      have hc2' := cell_later hnx.out hc2
      obtain ⟨hr0, hr1⟩ := rR_bd hL.out k
      have hbd := hs1_bd x (rR L k) (rN L k)
      have HX' : Hid (hs1 x (rR L k) (rN L k) = hsh lv (L.take (k + 1))) := by
        show _ = _
        rw [hsh_take lv L k hlt, HX.out]
      have HBD := hide hbd
      clear hc1 hc2 hbd
      go_wp2
      go_roundw
      case rel => exact ⟨k + 1, hs1 x (rR L k) (rN L k), by omega, by go_num, rfl, HBD.out.1, HBD.out.2, HX', hnx.out.alloc hnx.out.size _⟩
      case measure => simp [intOf]; omega
    · go_wp2
      go_ret
      refine ⟨?_, hnx.out⟩
      show Ending.returned (.int .i64 (x / 4503599627370496)) = _
      rw [HX.out, List.take_of_length_le (by omega)]
      rfl

set_option maxHeartbeats 1000000 in
theorem zzRecent_any (ra na : Option Addr) (c d : Nat) (X Y : List Int) (lv : Int) (w : World) (hlen : X.length ≤ 1048576) (hl : 0 ≤ lv) (hl2 : lv ≤ 255) (hs : Hid (Sp w ra na X Y)) (hL : Hid (okL (X.zip Y))) :
    Calls Try.prog 9 #[.int .u8 lv, .slice ra X.length c, .slice na X.length d] w fun e w' => e = .returned (.int .i64 (slot lv (X.zip Y))) ∧ Below w.heap.size w w' := by
  have hz : Hid ((X.zip Y).length = X.length) := by show _ = _; rw [List.length_zip]; have := hs.out.1; omega
  go_enter Try.func9, Try.ntmps9
  go_wp2_with fail
  refine (toRuns_any ra na c d X Y _ hlen hs).mono ?_
  rintro e w1 ⟨a1, rfl, hr1, hb1⟩
  have HR1 := hide hr1
  have HL1 := hide hb1
  clear hr1 hb1
  go_wp2_with fail
  rw [← hz.out]
  refine (recent_any a1 _ (X.zip Y) lv _ (by rw [hz.out]; exact hlen) hl hl2 HR1 hL).mono ?_
  rintro e w2 ⟨rfl, hb2⟩
  have HL2 := hide (below_step HL1.out hb2 (Nat.le_refl _))
  clear hb2
  go_wp2
  go_ret
  exact ⟨rfl, HL2.out⟩

set_option maxHeartbeats 400000 in
theorem zzBytes6_yes (a : Option Addr) (n c : Nat) (lv i : Int) (w : World) (h : n ≤ 1048576) :
    Calls Try.prog 6 #[.int .u8 lv, .slice a n c, .int .i64 i] w fun e w' => e = .returned (.bool true) ∧ w' = w := by
  go_enter Try.func6, Try.ntmps6
  go_wp2
  go_ret
  exact ⟨rfl, rfl⟩
set_option maxHeartbeats 400000 in
theorem zzBytes6_no (a : Option Addr) (n c : Nat) (lv i : Int) (w : World) (h : ¬ n ≤ 1048576) :
    Calls Try.prog 6 #[.int .u8 lv, .slice a n c, .int .i64 i] w fun e w' => e = .returned (.bool false) ∧ w' = w := by
  go_enter Try.func6, Try.ntmps6
  go_wp2
  go_ret
  exact ⟨rfl, rfl⟩

end Go.Proofs.Qxb6617377a
