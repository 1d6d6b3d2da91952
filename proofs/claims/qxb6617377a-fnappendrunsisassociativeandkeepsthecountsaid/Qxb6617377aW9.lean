/-
  sameRuns of equal rows; sumRuns.
-/
import Derived.Test.Qxb6617377aW8
namespace Go.Proofs.Qxb6617377a
set_option linter.unusedVariables false
set_option linter.unusedSimpArgs false
open Go.RowKit

set_option maxHeartbeats 4000000 in
theorem same_any (a b : Option Addr) (c d : Nat) (L : List (Int × Int)) (w : World) (hL : L.length ≤ 1048576) (ha : Hid (Ro w a L)) (hb : Hid (Ro w b L)) :
    Calls Try.prog 13 #[.slice a L.length c, .slice b L.length d] w fun e w' => e = .returned (.bool true) ∧ Below w.heap.size w w' := by
  go_enter Try.func13, Try.ntmps13
  go_wp2_with fail
  go_loopw [5] (fun i wr => ∃ k : Nat, k ≤ L.length ∧ i = .int .i64 k ∧ Hid (Below w.heap.size w wr)) (fun i _ => L.length - (intOf i).toNat)
  case atStart => exact ⟨0, Nat.zero_le _, rfl, Below.refl _ _⟩
  case round =>
    obtain ⟨k, hk, rfl, hnx⟩ := hrel
    by_cases hlt : k < L.length
    · obtain ⟨b1, o1, rfl, hc1, hc2⟩ := ha.out.2 k hlt
      obtain ⟨b2, o2, rfl, hd1, hd2⟩ := hb.out.2 k hlt
      have hc1' := cell_later hnx.out hc1
      have hc2' := cell_later hnx.out hc2
      have hd1' := cell_later hnx.out hd1
      have hd2' := cell_later hnx.out hd2
      clear hc1 hc2 hd1 hd2
      have hd : (rR L k == rR L k) = true := by simp
      go_wp2
      go_quiet (fail)
      go_wp2
      go_roundw
      case rel => exact ⟨k + 1, by omega, by go_num, belowDrewN hnx.out⟩
      case measure => simp [intOf]; omega
    · go_wp2
      go_ret
      exact ⟨rfl, hnx.out⟩

theorem tot_take (L : List (Int × Int)) (k : Nat) (h : k < L.length) : tot (L.take (k + 1)) = tot (L.take k) + rN L k := by
  rw [take_step L k h, tot_app]
  simp [tot]

set_option maxHeartbeats 4000000 in
theorem sum_any (a : Option Addr) (c : Nat) (L : List (Int × Int)) (w : World) (hL : L.length ≤ 1048576) (ha : Hid (Ro w a L)) :
    Calls Try.prog 15 #[.slice a L.length c] w fun e w' => e = .returned (.int .i64 (wrap64 (tot L))) ∧ Below w.heap.size w w' := by
  go_enter Try.func15, Try.ntmps15
  go_wp2_with fail
  go_loopw [3, 4] (fun s i wr => ∃ k : Nat, k ≤ L.length ∧ i = .int .i64 k ∧ s = .int .i64 (wrap64 (tot (L.take k))) ∧ Hid (Below w.heap.size w wr)) (fun _ i _ => L.length - (intOf i).toNat)
  case atStart => exact ⟨0, Nat.zero_le _, rfl, (by simp [tot, wrap64]), Below.refl _ _⟩
  case round =>
    obtain ⟨k, hk, rfl, rfl, hnx⟩ := hrel
    by_cases hlt : k < L.length
    · obtain ⟨b1, o1, rfl, hc1, hc2⟩ := ha.out.2 k hlt
      have hc2' := cell_later hnx.out hc2
      clear hc1 hc2
      go_wp2
      go_roundw
      case rel => exact ⟨k + 1, by omega, by go_num, by rw [tot_take L k hlt, wrap_l], hnx⟩
      case measure => simp [intOf]; omega
    · go_wp2
      go_ret
      refine ⟨?_, hnx.out⟩
      show Ending.returned (.int .i64 (wrap64 (tot (L.take k)))) = _
      rw [List.take_of_length_le (by omega)]

end Go.Proofs.Qxb6617377a
