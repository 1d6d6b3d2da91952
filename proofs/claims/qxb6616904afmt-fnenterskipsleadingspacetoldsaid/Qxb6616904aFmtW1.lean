import Derived.Test.Qxb6616904aFmtRows
import Derived.Test.Qxb6616904aFmtPlain
import Derived.WalkKit
import Derived.WalkSpells
import Derived.WalkLawsBesides
import Derived.Deep.QuietTactic
import Derived.BigQuiet
import Derived.Deep.OwnRows
namespace Go.Proofs.Qxb6616904aFmt
open Go.RowKit

theorem hide {p : Prop} (h : p) : Hid p := h
theorem unhide {p : Prop} (h : Hid p) : p := h
theorem ret_bool {a b : Bool} (h : a = b) : Ending.returned (.bool a) = .returned (.bool b) := by rw [h]
theorem ret_int {k : IntKind} {a b : Int} (h : a = b) : Ending.returned (.int k a) = .returned (.int k b) := by rw [h]

set_option maxHeartbeats 400000 in
theorem zzIsSpace_any (c : Int) (w : World) :
    Calls Tryf.prog 16 #[.int .u8 c] w fun e w' => e = .returned (.bool (spB c)) ∧ w' = w := by
  go_enter Tryf.func16, Tryf.ntmps16
  go_wp2
  all_goals go_ret
  all_goals exact ⟨ret_bool (by simp [spB, *]), rfl⟩

set_option maxHeartbeats 400000 in
theorem isSpace_any (c : Int) (w : World) :
    Calls Tryf.prog 34 #[.int .u8 c] w fun e w' => e = .returned (.bool (spB c)) ∧ w' = w := by
  go_enter Tryf.func34, Tryf.ntmps34
  go_wp2
  all_goals go_ret
  all_goals exact ⟨ret_bool (by simp [spB, *]), rfl⟩

theorem closer_yes {c : Int} (h : (c == 91) = true) : closer c = 93 := by simp at h; simp [closer, h]
theorem closer_no {c : Int} (h : (c == 91) = false) : closer c = 125 := by simp at h; simp [closer, h]

set_option maxHeartbeats 400000 in
theorem zzCloser_any (c : Int) (w : World) :
    Calls Tryf.prog 24 #[.int .u8 c] w fun e w' => e = .returned (.int .u8 (closer c)) ∧ w' = w := by
  go_enter Tryf.func24, Tryf.ntmps24
  go_wp2
  · go_ret
    exact ⟨ret_int (closer_yes ‹_›).symm, rfl⟩
  · go_ret
    exact ⟨ret_int (closer_no ‹_›).symm, rfl⟩

/-- a slice of bytes of the call's own: nil, or a row of its own -/
def Bs (w : World) (da : Option Addr) (D : List Int) : Prop :=
  (da = none ∧ D = []) ∨ ∃ db, da = some ⟨db, 0, none⟩ ∧ w.rowIs db 5 D.length (fun j => .int .u8 (pk D j))

theorem Bs.cell {w : World} {da : Option Addr} {D : List Int} (h : Bs w da D) {i : Nat} (hi : i < D.length) : ∃ db, da = some ⟨db, 0, none⟩ ∧ w.cell? ⟨db, i, none⟩ = some (.int .u8 (pk D i)) := by
  rcases h with ⟨_, rfl⟩ | ⟨db, rfl, hc⟩
  · simp at hi
  · exact ⟨db, rfl, hc.cell hi⟩

/-- the slice's block lies below B -/
def Lo (da : Option Addr) (B : Nat) : Prop := ∀ x, da = some x → x.block < B

theorem Bs.lo {w : World} {da : Option Addr} {D : List Int} (h : Bs w da D) : Lo da w.heap.size := by
  intro x hx
  rcases h with ⟨rfl, _⟩ | ⟨db, rfl, hc⟩
  · cases hx
  · cases hx; exact hc.lt

theorem Bs.later {w w' : World} {da : Option Addr} {D : List Int} {B : Nat} (h : Bs w da D) (hb : Below B w w') (hl : Lo da B) : Bs w' da D := by
  rcases h with h | ⟨db, rfl, hc⟩
  · exact .inl h
  · exact .inr ⟨db, rfl, hc.of_block (hb.block db (hl _ rfl))⟩

set_option maxHeartbeats 400000 in
theorem at_any (rb dc : Nat) (da : Option Addr) (D : List Int) (i : Nat) (w : World)
    (h0 : w.cell? ⟨rb, 0, none⟩ = some (.slice da D.length dc)) (hb : Hid (Bs w da D)) :
    Calls Tryf.prog 33 #[.pointer (some ⟨rb, 0, none⟩), .int .i64 i] w fun e w' => e = .returned (.int .u8 (pk D i)) ∧ w' = w := by
  by_cases hi : i < D.length
  · obtain ⟨db, rfl, hci⟩ := hb.out.cell hi
    go_enter Tryf.func33, Tryf.ntmps33
    go_wp2
    go_ret
    exact ⟨rfl, rfl⟩
  · go_enter Tryf.func33, Tryf.ntmps33
    go_wp2
    go_ret
    exact ⟨ret_int (pk_of_ge hi).symm, rfl⟩

set_option maxHeartbeats 400000 in
theorem zzAt_any (rb dc : Nat) (da : Option Addr) (D : List Int) (i : Nat) (w : World)
    (h0 : w.cell? ⟨rb, 0, none⟩ = some (.slice da D.length dc)) (hb : Hid (Bs w da D)) :
    Calls Tryf.prog 14 #[.pointer (some ⟨rb, 0, none⟩), .int .i64 i] w fun e w' => e = .returned (.int .u8 (pk D i)) ∧ w' = w := by
  go_enter Tryf.func14, Tryf.ntmps14
  go_wp2_with (go_at_call 33; refine (at_any _ dc da D i _ h0 hb).mono ?_; rintro e w' ⟨rfl, rfl⟩)
  go_ret
  exact ⟨rfl, rfl⟩

set_option maxHeartbeats 400000 in
theorem peek_any (rb dc : Nat) (da : Option Addr) (D : List Int) (pos : Nat) (w : World)
    (h0 : w.cell? ⟨rb, 0, none⟩ = some (.slice da D.length dc)) (h1 : w.cell? ⟨rb, 1, none⟩ = some (.int .i64 pos)) (hb : Hid (Bs w da D)) :
    Calls Tryf.prog 28 #[.pointer (some ⟨rb, 0, none⟩)] w fun e w' => e = .returned (.int .u8 (pk D pos)) ∧ w' = w := by
  go_enter Tryf.func28, Tryf.ntmps28
  go_wp2_with (go_at_call 33; refine (at_any _ dc da D pos _ h0 hb).mono ?_; rintro e w' ⟨rfl, rfl⟩)
  go_ret
  exact ⟨rfl, rfl⟩

set_option maxHeartbeats 400000 in
theorem offset_any (rb pos : Nat) (w : World) (h1 : w.cell? ⟨rb, 1, none⟩ = some (.int .i64 pos)) :
    Calls Tryf.prog 12 #[.pointer (some ⟨rb, 0, none⟩)] w fun e w' => e = .returned (.int .i64 pos) ∧ w' = w := by
  go_enter Tryf.func12, Tryf.ntmps12
  go_wp2
  go_ret
  exact ⟨rfl, rfl⟩

set_option maxHeartbeats 400000 in
theorem zzErr_nil (rb : Nat) (w : World) (h1 : w.cell? ⟨rb, 2, none⟩ = some .nilIface) :
    Calls Tryf.prog 13 #[.pointer (some ⟨rb, 0, none⟩)] w fun e w' => e = .returned .nilIface ∧ w' = w := by
  go_enter Tryf.func13, Tryf.ntmps13
  go_wp2
  go_ret
  exact ⟨rfl, rfl⟩

set_option maxHeartbeats 400000 in
theorem zzErr_some (rb : Nat) (t : TypeId) (v : Value) (w : World) (h1 : w.cell? ⟨rb, 2, none⟩ = some (.iface t v)) :
    Calls Tryf.prog 13 #[.pointer (some ⟨rb, 0, none⟩)] w fun e w' => e = .returned (.iface t v) ∧ w' = w := by
  go_enter Tryf.func13, Tryf.ntmps13
  go_wp2
  go_ret
  exact ⟨rfl, rfl⟩

set_option maxHeartbeats 400000 in
theorem zzDepth_any (rb len cap : Nat) (la : Option Addr) (w : World) (h3 : w.cell? ⟨rb, 3, none⟩ = some (.slice la len cap)) :
    Calls Tryf.prog 19 #[.pointer (some ⟨rb, 0, none⟩)] w fun e w' => e = .returned (.int .i64 len) ∧ w' = w := by
  go_enter Tryf.func19, Tryf.ntmps19
  go_wp2
  go_ret
  exact ⟨rfl, rfl⟩

set_option maxHeartbeats 400000 in
theorem zzLevelEnd_any (rb len cap lb k : Nat) (x : Int) (w : World) (hk : k < len) (h3 : w.cell? ⟨rb, 3, none⟩ = some (.slice (some ⟨lb, 0, none⟩) len cap)) (hx : w.cell? ⟨lb, k * 4, none⟩ = some (.int .u8 x)) :
    Calls Tryf.prog 20 #[.pointer (some ⟨rb, 0, none⟩), .int .i64 k] w fun e w' => e = .returned (.int .u8 x) ∧ w' = w := by
  go_enter Tryf.func20, Tryf.ntmps20
  go_wp2
  go_ret
  exact ⟨rfl, rfl⟩

set_option maxHeartbeats 400000 in
theorem zzLevelItems_any (rb len cap lb k : Nat) (x : Bool) (w : World) (hk : k < len) (h3 : w.cell? ⟨rb, 3, none⟩ = some (.slice (some ⟨lb, 0, none⟩) len cap)) (hx : w.cell? ⟨lb, k * 4 + 1, none⟩ = some (.bool x)) :
    Calls Tryf.prog 21 #[.pointer (some ⟨rb, 0, none⟩), .int .i64 k] w fun e w' => e = .returned (.bool x) ∧ w' = w := by
  go_enter Tryf.func21, Tryf.ntmps21
  go_wp2
  go_ret
  exact ⟨rfl, rfl⟩

set_option maxHeartbeats 400000 in
theorem newReader_any (v : Value) (da : Option Addr) (n c : Nat) (hv : v = .slice da n c) (w : World) :
    Calls Tryf.prog 10 #[v] w fun e w' => e = .returned (.pointer (some ⟨w.heap.size, 0, none⟩)) ∧ w' = w.alloc (.cells #[.slice da n c, .int .i64 0, .nilIface, .slice none 0 0] 45) := by
  subst hv
  go_enter Tryf.func10, Tryf.ntmps10
  go_wp2
  go_ret
  exact ⟨rfl, rfl⟩

set_option maxHeartbeats 400000 in
theorem reset_any (lb off : Nat) (w : World) (h2 : w.cell? ⟨lb, off, none⟩ = some (.slice none 0 0)) (f2 : w.frozen? ⟨lb, off, none⟩ = false) :
    Calls Tryf.prog 32 #[.pointer (some ⟨lb, off, none⟩)] w fun e w' => e = .returned (.tuple #[]) ∧ w' = w.setCell ⟨lb, off, none⟩ (.slice none 0 0) := by
  go_enter Tryf.func32, Tryf.ntmps32
  go_wp2
  go_end0
  exact ⟨rfl, rfl⟩

set_option maxHeartbeats 400000 in
theorem fail_any (rb : Nat) (t : TypeId) (v : Value) (w : World) (h2 : w.cell? ⟨rb, 2, none⟩ = some .nilIface) (f2 : w.frozen? ⟨rb, 2, none⟩ = false) :
    Calls Tryf.prog 30 #[.pointer (some ⟨rb, 0, none⟩), .iface t v] w fun e w' => e = .returned (.tuple #[]) ∧ w' = w.setCell ⟨rb, 2, none⟩ (.iface t v) := by
  go_enter Tryf.func30, Tryf.ntmps30
  go_wp2
  go_end0
  exact ⟨rfl, rfl⟩

end Go.Proofs.Qxb6616904aFmt
