/-
  The rest of the way of callAppendRuns.
-/
import Derived.Test.Qxb6617377aW6
namespace Go.Proofs.Qxb6617377a
set_option linter.unusedVariables false
set_option linter.unusedSimpArgs false
open Go.RowKit

set_option maxHeartbeats 1000000 in
theorem from_any (a : Option Addr) (c : Nat) (L : List (Int × Int)) (w : World) (hlen : L.length ≤ 1048576) (hb : Hid (Ro w a L)) :
    Calls Try.prog 20 #[.slice a L.length c] w fun e w' => ∃ ra na, e = .returned (.tuple #[.slice ra L.length L.length, .slice na L.length L.length]) ∧ Sp w' ra na (L.map Prod.fst) (L.map Prod.snd) ∧ Below w.heap.size w w' ∧ (∀ x, ra = some x → w.heap.size ≤ x.block) ∧ (∀ x, na = some x → w.heap.size ≤ x.block) := by
  have q39 : ∀ (w : World) (a : Option Addr) (n c n' c' : Nat), (binOp .eql 39 (.slice a n c) (.slice none n' c')).run Try.prog w = .ok (.bool a.isNone) w := fun w a n c n' c' => Lib.run_eql_slice_nil w _ _ a n c n' c' Try.underlying39
  cases a with
  | none =>
    have hD := hb.out.1 rfl
    subst hD
    go_enter Try.func20, Try.ntmps20
    go_wp2
    go_ret2
    exact ⟨none, none, rfl, ⟨rfl, Iff.rfl, .inl ⟨rfl, rfl⟩, .inl ⟨rfl, rfl⟩⟩, Below.refl _ _, (fun x h => by cases h), (fun x h => by cases h)⟩
  | some x =>
    have hmk := run_make_row' (P := Try.prog) 25 30 (.int .u32 0) 4 Try.underlying25 info30 rfl .i64 .i64 L.length (by omega) (by omega)
    have hmk2 := run_make_row' (P := Try.prog) 26 2 (.int .i64 0) 8 Try.underlying26 info2 rfl .i64 .i64 L.length (by omega) (by omega)
    go_enter Try.func20, Try.ntmps20
    go_wp2
    go_loopw [6] (fun i wr => ∃ k : Nat, k ≤ L.length ∧ i = .int .i64 k ∧ Hid (Below w.heap.size w wr) ∧ Hid (wr.rowIs w.heap.size 30 L.length (fun j => .int .u32 (if j < k then rR L j else 0))) ∧ Hid (wr.rowIs (w.heap.size + 1) 2 L.length (fun j => .int .i64 (if j < k then rN L j else 0)))) (fun i _ => L.length - (intOf i).toNat)
    case atStart =>
      refine ⟨0, Nat.zero_le _, rfl, ((Below.refl _ _).alloc (Nat.le_refl _) _).alloc (by simp) _, ?_, ?_⟩
      · exact ((World.rowIs_made w (.int .u32 0) L.length 30).alloc _).congr (fun i _ => by simp)
      · have := World.rowIs_made (w.alloc (.cells (madeCells #[.int .u32 0] L.length) 30)) (.int .i64 0) L.length 2
        rw [World.size_alloc] at this
        exact this.congr (fun i _ => by simp)
    case round =>
      obtain ⟨k, hk, rfl, hnx, hr1, hr2⟩ := hrel
      by_cases hlt : k < L.length
      · obtain ⟨b, o, hx, hc1, hc2⟩ := hb.out.2 k hlt
        cases hx
        have hbw := World.block_lt_of_cell? _ _ hc1
        have hc1' := cell_later hnx.out hc1
        have hc2' := cell_later hnx.out hc2
        have hd1 := hr1.out.cell (i := k) hlt
        have hd2 := hr2.out.cell (i := k) hlt
        have hf1 := hr1.out.frozen k
        have hf2 := hr2.out.frozen k
        have hne1 : ¬ b = w.heap.size := by have : b < w.heap.size := hbw; omega
        have hne2 : ¬ w.heap.size = b := by have : b < w.heap.size := hbw; omega
        have hne3 : ¬ w.heap.size + 1 = w.heap.size := by omega
        clear hc1 hc2 hmk hmk2 q39 hbw
        go_wp2
        go_roundw
        case rel =>
          refine ⟨k + 1, by omega, by go_num, (hnx.out.setCell (Nat.le_refl _) _).setCell (Nat.le_succ _) _, ?_, ?_⟩
          · exact ((hr1.out.set k _).setOther (by simp) _).congr (fun j hj => by by_cases e : j = k <;> simp [e] <;> split <;> split <;> first | rfl | omega)
          · exact ((hr2.out.setOther (by simp) _).set k _).congr (fun j hj => by by_cases e : j = k <;> simp [e] <;> split <;> split <;> first | rfl | omega)
        case measure => simp [intOf]; omega
      · go_wp2
        go_ret2
        refine ⟨some ⟨w.heap.size, 0, none⟩, some ⟨w.heap.size + 1, 0, none⟩, rfl, ⟨by simp, by simp, .inr ⟨_, rfl, ?_⟩, .inr ⟨_, rfl, ?_⟩⟩, hnx.out, (fun x h => by cases h; exact Nat.le_refl _), (fun x h => by cases h; exact Nat.le_succ _)⟩
        · rw [List.length_map]
          exact hr1.out.congr (fun j hj => by rw [if_pos (by omega), nth_fst])
        · rw [List.length_map]
          exact hr2.out.congr (fun j hj => by rw [if_pos (by omega), nth_snd])

set_option maxHeartbeats 2000000 in
theorem toRuns_new (ra na : Option Addr) (c d : Nat) (X Y : List Int) (w : World) (hlen : X.length ≤ 1048576) (hs : Hid (Sp w ra na X Y)) :
    Calls Try.prog 17 #[.slice ra X.length c, .slice na X.length d] w fun e w' => ∃ a', e = .returned (.slice a' X.length X.length) ∧ Rs w' 46 a' (X.zip Y) ∧ Below w.heap.size w w' ∧ (∀ x, a' = some x → w.heap.size ≤ x.block) := by
  have q25 : ∀ (w : World) (a : Option Addr) (n c n' c' : Nat), (binOp .eql 25 (.slice a n c) (.slice none n' c')).run Try.prog w = .ok (.bool a.isNone) w := fun w a n c n' c' => Lib.run_eql_slice_nil w _ _ a n c n' c' Try.underlying25
  obtain ⟨hXY, hnil, hX, hY⟩ := hs.out
  rcases hX with ⟨rfl, rfl⟩ | ⟨g1, rfl, hX⟩
  · go_enter Try.func17, Try.ntmps17
    go_wp2
    go_ret
    exact ⟨none, rfl, .inl ⟨rfl, rfl⟩, Below.refl _ _, (fun x h => by cases h)⟩
  · rcases hY with ⟨rfl, rfl⟩ | ⟨g2, rfl, hY⟩
    · simp at hnil
    · have HX := hide hX
      have HY := hide hY
      have HXY := hide hXY
      clear hX hY hXY hnil
      have hmk := run_make_runs 39 46 Try.underlying39 info46 X.length hlen
      go_enter Try.func17, Try.ntmps17
      go_wp2
      go_loopw [6] (fun i wr => ∃ k : Nat, k ≤ X.length ∧ i = .int .i64 k ∧ Hid (Below w.heap.size w wr) ∧ Hid (wr.rowIs w.heap.size 46 (X.length * 2) (rF (fun j => if j < k then nth X j else 0) (fun j => if j < k then nth Y j else 0)))) (fun i _ => X.length - (intOf i).toNat)
      case atStart => exact ⟨0, Nat.zero_le _, rfl, (Below.refl _ _).alloc (Nat.le_refl _) _, (rowIs_made2 _ _ _).congr (fun i _ => by simp [rF])⟩
      case round =>
        obtain ⟨k, hk, rfl, hnx, hrow⟩ := hrel
        clear hmk q25
        by_cases hlt : k < X.length
        · have hc1 := cell_later hnx.out (HX.out.cell hlt)
          have hc2 := cell_later hnx.out (HY.out.cell (i := k) (by have := HXY.out; omega))
          have hd1 := hrow.out.cell (i := k * 2) (by omega)
          have hd2 := hrow.out.cell (i := k * 2 + 1) (by omega)
          have hf1 := hrow.out.frozen (k * 2)
          have hf2 := hrow.out.frozen (k * 2 + 1)
          go_wp2
          go_region
          go_wp2
          go_roundw
          case rel => exact ⟨k + 1, by omega, by go_num, ((hnx.out.setCell (Nat.le_refl _) _).setCell (Nat.le_refl _) _).drew, ((row_set2 hrow.out k _ _).congr (rF_ext (fun j hj => by by_cases e : j = k <;> simp [e] <;> constructor <;> split <;> split <;> first | rfl | omega))).drew⟩
          case measure => simp [intOf]; omega
        · go_wp2
          go_ret
          refine ⟨some ⟨w.heap.size, 0, none⟩, rfl, .inr ⟨_, rfl, ?_⟩, hnx.out, (fun x h => by cases h; exact Nat.le_refl _)⟩
          have hz : (X.zip Y).length = X.length := by rw [List.length_zip]; have := HXY.out; omega
          rw [hz]
          exact hrow.out.congr (rF_ext (fun j hj => by rw [if_pos (by omega), if_pos (by omega), rR_zip HXY.out hj, rN_zip HXY.out hj]; exact ⟨rfl, rfl⟩))

set_option maxHeartbeats 2000000 in
theorem joinRuns_any (ra na : Option Addr) (c d : Nat) (X Y : List Int) (w : World) (hlen : X.length ≤ 1048576) (hs : Hid (Sp w ra na X Y)) :
    Calls Try.prog 19 #[.slice ra X.length c, .slice na X.length d] w fun e w' => ∃ a', e = .returned (.slice a' X.length X.length) ∧ Rs w' 36 a' (X.zip Y) ∧ Below w.heap.size w w' ∧ (∀ x, a' = some x → w.heap.size ≤ x.block) := by
  have q25 : ∀ (w : World) (a : Option Addr) (n c n' c' : Nat), (binOp .eql 25 (.slice a n c) (.slice none n' c')).run Try.prog w = .ok (.bool a.isNone) w := fun w a n c n' c' => Lib.run_eql_slice_nil w _ _ a n c n' c' Try.underlying25
  obtain ⟨hXY, hnil, hX, hY⟩ := hs.out
  rcases hX with ⟨rfl, rfl⟩ | ⟨g1, rfl, hX⟩
  · go_enter Try.func19, Try.ntmps19
    go_wp2
    go_ret
    exact ⟨none, rfl, .inl ⟨rfl, rfl⟩, Below.refl _ _, (fun x h => by cases h)⟩
  · rcases hY with ⟨rfl, rfl⟩ | ⟨g2, rfl, hY⟩
    · simp at hnil
    · have HX := hide hX
      have HY := hide hY
      have HXY := hide hXY
      clear hX hY hXY hnil
      have hmk := run_make_runs 22 36 Try.underlying22 info36 X.length hlen
      go_enter Try.func19, Try.ntmps19
      go_wp2
      go_loopw [6] (fun i wr => ∃ k : Nat, k ≤ X.length ∧ i = .int .i64 k ∧ Hid (Below w.heap.size w wr) ∧ Hid (wr.rowIs w.heap.size 36 (X.length * 2) (rF (fun j => if j < k then nth X j else 0) (fun j => if j < k then nth Y j else 0)))) (fun i _ => X.length - (intOf i).toNat)
      case atStart => exact ⟨0, Nat.zero_le _, rfl, (Below.refl _ _).alloc (Nat.le_refl _) _, (rowIs_made2 _ _ _).congr (fun i _ => by simp [rF])⟩
      case round =>
        obtain ⟨k, hk, rfl, hnx, hrow⟩ := hrel
        clear hmk q25
        by_cases hlt : k < X.length
        · have hc1 := cell_later hnx.out (HX.out.cell hlt)
          have hc2 := cell_later hnx.out (HY.out.cell (i := k) (by have := HXY.out; omega))
          have hd1 := hrow.out.cell (i := k * 2) (by omega)
          have hd2 := hrow.out.cell (i := k * 2 + 1) (by omega)
          have hf1 := hrow.out.frozen (k * 2)
          have hf2 := hrow.out.frozen (k * 2 + 1)
          go_wp2
          go_region
          go_wp2
          go_roundw
          case rel => exact ⟨k + 1, by omega, by go_num, ((hnx.out.setCell (Nat.le_refl _) _).setCell (Nat.le_refl _) _).drew, ((row_set2 hrow.out k _ _).congr (rF_ext (fun j hj => by by_cases e : j = k <;> simp [e] <;> constructor <;> split <;> split <;> first | rfl | omega))).drew⟩
          case measure => simp [intOf]; omega
        · go_wp2
          go_ret
          refine ⟨some ⟨w.heap.size, 0, none⟩, rfl, .inr ⟨_, rfl, ?_⟩, hnx.out, (fun x h => by cases h; exact Nat.le_refl _)⟩
          have hz : (X.zip Y).length = X.length := by rw [List.length_zip]; have := HXY.out; omega
          rw [hz]
          exact hrow.out.congr (rF_ext (fun j hj => by rw [if_pos (by omega), if_pos (by omega), rR_zip HXY.out hj, rN_zip HXY.out hj]; exact ⟨rfl, rfl⟩))

end Go.Proofs.Qxb6617377a
