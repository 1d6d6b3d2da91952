import Derived.Test.Qxb6616904aFmtB
import Derived.Test.Qxb6616904aFmtPlain5
namespace Go.Proofs.Qxb6616904aFmt
set_option linter.unusedVariables false
set_option linter.unusedSimpArgs false
open Go.RowKit Go.Extern.Stop Go.Stop Go.Extern

set_option maxHeartbeats 400000 in
theorem zzBytes22_yes (a b : Option Addr) (n c m d : Nat) (w : World) (h : n + m ≤ 1048576) :
    Calls Tryf.prog 22 #[.slice a n c, .slice b m d] w fun e w' => e = .returned (.bool true) ∧ w' = w := by
  go_enter Tryf.func22, Tryf.ntmps22
  go_wp2
  go_ret
  exact ⟨rfl, rfl⟩
set_option maxHeartbeats 400000 in
theorem zzBytes22_no (a b : Option Addr) (n c m d : Nat) (w : World) (h : ¬ n + m ≤ 1048576) :
    Calls Tryf.prog 22 #[.slice a n c, .slice b m d] w fun e w' => e = .returned (.bool false) ∧ w' = w := by
  by_cases h1 : n ≤ 1048576
  · by_cases h2 : m ≤ 1048576
    · go_enter Tryf.func22, Tryf.ntmps22
      go_wp2
      go_ret
      exact ⟨rfl, rfl⟩
    · go_enter Tryf.func22, Tryf.ntmps22
      go_wp2
      go_ret
      exact ⟨rfl, rfl⟩
  · go_enter Tryf.func22, Tryf.ntmps22
    go_wp2
    go_ret
    exact ⟨rfl, rfl⟩

set_option maxHeartbeats 2000000 in
theorem zzJoin_any (a b : Option Addr) (c d : Nat) (A B : List Int) (w : World) (hlen : A.length + B.length ≤ 1048576) (ha : Hid (Bs w a A)) (hb : Hid (Bs w b B)) :
    Calls Tryf.prog 23 #[.slice a A.length c, .slice b B.length d] w fun e w' => ∃ a', e = .returned (.slice a' (A ++ B).length (A ++ B).length) ∧ Bs w' a' (A ++ B) ∧ Below w.heap.size w w' := by
  have hmk0 := run_make_row' (P := Tryf.prog) 22 5 (.int .u8 0) 1 Tryf.underlying22 info5 rfl .i64 .i64 (A.length + B.length) (by omega) (by omega)
  have hmk : ∀ w, (Instr.makeSlice 22 (.int .i64 ((A.length : Int) + (B.length : Int))) (.int .i64 ((A.length : Int) + (B.length : Int)))).run Tryf.prog w = .ok (.slice (some ⟨w.heap.size, 0, none⟩) (A.length + B.length) (A.length + B.length)) (w.alloc (.cells (madeCells #[.int .u8 0] (A.length + B.length)) 5)) := by
    intro w
    have := hmk0 w
    rw [Int.natCast_add] at this
    exact this
  clear hmk0
  go_enter Tryf.func23, Tryf.ntmps23
  go_wp2
  go_loopw [6] (fun i wr => ∃ k : Nat, k ≤ A.length ∧ i = .int .i64 k ∧ Hid (Below w.heap.size w wr) ∧ Hid (wr.rowIs w.heap.size 5 (A.length + B.length) (fun j => .int .u8 (if j < k then pk (A ++ B) j else 0)))) (fun i _ => A.length - (intOf i).toNat)
  case atStart => exact ⟨0, Nat.zero_le _, rfl, (Below.refl _ _).alloc (Nat.le_refl _) _, (World.rowIs_made _ _ _ _).congr (fun i _ => by simp)⟩
  case round =>
    obtain ⟨k, hk, rfl, hnx, hrow⟩ := hrel
    clear hmk
    by_cases hlt : k < A.length
    · obtain ⟨db, rfl, hc⟩ := ha.out.cell hlt
      have hc' := cell_later hnx.out hc
      rw [← pk_left (B := B) hlt] at hc'
      have hd := hrow.out.cell (i := k) (by omega)
      have hf := hrow.out.frozen k
      clear hc
      go_wp2
      go_roundw
      case rel => exact ⟨k + 1, by omega, by go_num, hnx.out.setCell (Nat.le_refl _) _, (hrow.out.set k _).congr (fun j hj => by by_cases e : j = k <;> simp [e] <;> split <;> split <;> first | rfl | omega)⟩
      case measure => simp [intOf]; omega
    · obtain rfl : A.length = k := by omega
      go_wp2
      go_loopw [7] (fun i wx => ∃ k : Nat, k ≤ B.length ∧ i = .int .i64 k ∧ Hid (Below w.heap.size w wx) ∧ Hid (wx.rowIs w.heap.size 5 (A.length + B.length) (fun j => .int .u8 (if j < A.length + k then pk (A ++ B) j else 0)))) (fun i _ => B.length - (intOf i).toNat)
      case atStart => exact ⟨0, Nat.zero_le _, rfl, hnx, hrow⟩
      case round =>
        obtain ⟨k, hk2, rfl, hny, hrow2⟩ := hrel
        by_cases hlt2 : k < B.length
        · obtain ⟨db, rfl, hc⟩ := hb.out.cell hlt2
          have hc' := cell_later hny.out hc
          rw [← pk_right A B k] at hc'
          have hd := hrow2.out.cell (i := A.length + k) (by omega)
          have hf := hrow2.out.frozen (A.length + k)
          clear hc
          go_wp2
          go_roundw
          case rel => exact ⟨k + 1, by omega, by go_num, hny.out.setCell (Nat.le_refl _) _, (hrow2.out.set (A.length + k) _).congr (fun j hj => by by_cases e : j = A.length + k <;> simp [e] <;> split <;> split <;> first | rfl | omega)⟩
          case measure => simp [intOf]; omega
        · go_wp2
          go_ret
          refine ⟨some ⟨w.heap.size, 0, none⟩, by simp, .inr ⟨_, rfl, ?_⟩, hny.out⟩
          rw [List.length_append]
          exact hrow2.out.congr (fun j hj => by rw [if_pos (by omega)])

end Go.Proofs.Qxb6616904aFmt
