import Derived.Test.Qxb6617377aW2
namespace Go.Proofs.Qxb6617377a
set_option linter.unusedVariables false
set_option linter.unusedSimpArgs false
open Go.RowKit

theorem rR_zip {X Y : List Int} (h : X.length = Y.length) {j : Nat} (hj : j < X.length) : rR (X.zip Y) j = nth X j := by
  have hz : j < (X.zip Y).length := by rw [List.length_zip]; omega
  unfold nth rR
  simp [List.getD, List.getElem?_eq_getElem hz, hj]
theorem rN_zip {X Y : List Int} (h : X.length = Y.length) {j : Nat} (hj : j < X.length) : rN (X.zip Y) j = nth Y j := by
  have hz : j < (X.zip Y).length := by rw [List.length_zip]; omega
  unfold nth rN
  simp [List.getD, List.getElem?_eq_getElem hz, show j < Y.length by omega]

set_option maxHeartbeats 2000000 in
theorem toRuns_any (ra na : Option Addr) (c d : Nat) (X Y : List Int) (w : World) (hlen : X.length ≤ 1048576) (hs : Hid (Sp w ra na X Y)) :
    Calls Try.prog 17 #[.slice ra X.length c, .slice na X.length d] w fun e w' => ∃ a', e = .returned (.slice a' X.length X.length) ∧ Rs w' 46 a' (X.zip Y) ∧ Below w.heap.size w w' := by
  have q25 : ∀ (w : World) (a : Option Addr) (n c n' c' : Nat), (binOp .eql 25 (.slice a n c) (.slice none n' c')).run Try.prog w = .ok (.bool a.isNone) w := fun w a n c n' c' => Lib.run_eql_slice_nil w _ _ a n c n' c' Try.underlying25
  obtain ⟨hXY, hnil, hX, hY⟩ := hs.out
  rcases hX with ⟨rfl, rfl⟩ | ⟨g1, rfl, hX⟩
  · go_enter Try.func17, Try.ntmps17
    go_wp2
    go_ret
    exact ⟨none, rfl, .inl ⟨rfl, rfl⟩, Below.refl _ _⟩
  · rcases hY with ⟨rfl, rfl⟩ | ⟨g2, rfl, hY⟩
    · simp at hnil
    · have HX := hide hX
      have HY := hide hY
      have HXY := hide hXY
      clear hX hY hXY hnil
      have hmk := run_make_runs 39 46 Try.underlying39 info46 X.length hlen
      go_enter Try.func17, Try.ntmps17
      go_wp2
      go_loopw [6] (fun i wr => ∃ k : Nat, k ≤ X.length ∧ i = .int .i64 k ∧ Hid (Below w.heap.size w wr) ∧ Hid (wr.rowIs w.heap.size 46 (X.length * 2) (rF (fun j => if j < k then nth X j else 0) (fun j => if j < k then nth Y j else 0)))) (fun i _ => X.length - (intOf i).toNat)
      case atStart => exact ⟨0, Nat.zero_le _, rfl, (Below.refl _ _).alloc (Nat.le_refl _) _, (rowIs_made2 _ _ _).congr (fun i _ => by simp [rF])⟩
      case round =>
        obtain ⟨k, hk, rfl, hnx, hrow⟩ := hrel
        clear hmk q25
        by_cases hlt : k < X.length
        · have hc1 := cell_later hnx.out (HX.out.cell hlt)
          have hc2 := cell_later hnx.out (HY.out.cell (i := k) (by have := HXY.out; omega))
          have hd1 := hrow.out.cell (i := k * 2) (by omega)
          have hd2 := hrow.out.cell (i := k * 2 + 1) (by omega)
          have hf1 := hrow.out.frozen (k * 2)
          have hf2 := hrow.out.frozen (k * 2 + 1)
          go_wp2
          go_region
          go_wp2
          go_roundw
          case rel => exact ⟨k + 1, by omega, by go_num, ((hnx.out.setCell (Nat.le_refl _) _).setCell (Nat.le_refl _) _).drew, ((row_set2 hrow.out k _ _).congr (rF_ext (fun j hj => by by_cases e : j = k <;> simp [e] <;> constructor <;> split <;> split <;> first | rfl | omega))).drew⟩
          case measure => simp [intOf]; omega
        · go_wp2
          go_ret
          refine ⟨some ⟨w.heap.size, 0, none⟩, rfl, .inr ⟨_, rfl, ?_⟩, hnx.out⟩
          have hz : (X.zip Y).length = X.length := by rw [List.length_zip]; have := HXY.out; omega
          rw [hz]
          exact hrow.out.congr (rF_ext (fun j hj => by rw [if_pos (by omega), if_pos (by omega), rR_zip HXY.out hj, rN_zip HXY.out hj]; exact ⟨rfl, rfl⟩))

end Go.Proofs.Qxb6617377a
