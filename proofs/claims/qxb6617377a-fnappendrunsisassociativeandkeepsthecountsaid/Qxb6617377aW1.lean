import Derived.Test.Qxb6617377aRows
import Derived.WalkKit
import Derived.WalkSpells
import Derived.WalkLawsBesides
import Derived.Deep.QuietTactic
import Derived.BigQuiet
import Derived.BigRegion
import Derived.RegionTactic
import Derived.Deep.OwnRows
namespace Go.Proofs.Qxb6617377a
set_option linter.unusedVariables false
set_option linter.unusedSimpArgs false
open Go.RowKit

theorem hide {p : Prop} (h : p) : Hid p := h
theorem ret_bool {a b : Bool} (h : a = b) : Ending.returned (.bool a) = .returned (.bool b) := by rw [h]
theorem ret_int {k : IntKind} {a b : Int} (h : a = b) : Ending.returned (.int k a) = .returned (.int k b) := by rw [h]

/-- the rope and the count of the j-th run -/
def rR (L : List (Int × Int)) (j : Nat) : Int := (L.getD j (0, 0)).1
def rN (L : List (Int × Int)) (j : Nat) : Int := (L.getD j (0, 0)).2
/-- the j-th number -/
def nth (X : List Int) (j : Nat) : Int := X.getD j 0

/-- the cells of a row of runs -/
def rF (f g : Nat → Int) : Nat → Value := fun j => if j % 2 = 0 then .int .u32 (f (j / 2)) else .int .i64 (g (j / 2))
theorem rF_even (f g : Nat → Int) (k : Nat) : rF f g (k * 2) = .int .u32 (f k) := by unfold rF; rw [if_pos (by omega), show k * 2 / 2 = k by omega]
theorem rF_odd (f g : Nat → Int) (k : Nat) : rF f g (k * 2 + 1) = .int .i64 (g k) := by unfold rF; rw [if_neg (by omega), show (k * 2 + 1) / 2 = k by omega]

theorem rF_ext {f g f' g' : Nat → Int} {n : Nat} (h : ∀ j, j < n → f j = f' j ∧ g j = g' j) : ∀ i, i < n * 2 → rF f g i = rF f' g' i := by
  intro i hi
  unfold rF
  rw [(h (i / 2) (by omega)).1, (h (i / 2) (by omega)).2]

theorem row_set2 {w : World} {b e m : Nat} {f g : Nat → Int} (h : w.rowIs b e m (rF f g)) (k : Nat) (x y : Int) :
    ((w.setCell ⟨b, k * 2, none⟩ (.int .u32 x)).setCell ⟨b, k * 2 + 1, none⟩ (.int .i64 y)).rowIs b e m (rF (fun j => if j = k then x else f j) (fun j => if j = k then y else g j)) := by
  refine ((h.set (k * 2) _).set (k * 2 + 1) _).congr (fun j _ => ?_)
  unfold rF
  by_cases e1 : j = k * 2 + 1
  · subst e1
    rw [if_pos rfl, if_neg (by omega), show (k * 2 + 1) / 2 = k by omega]
    dsimp only
    rw [if_pos rfl]
  · rw [if_neg e1]
    by_cases e2 : j = k * 2
    · subst e2
      rw [if_pos rfl, if_pos (by omega), show k * 2 / 2 = k by omega]
      dsimp only
      rw [if_pos rfl]
    · rw [if_neg e2]
      by_cases e3 : j % 2 = 0
      · rw [if_pos e3, if_pos e3]
        dsimp only
        rw [if_neg (by omega)]
      · rw [if_neg e3, if_neg e3]
        dsimp only
        rw [if_neg (by omega)]

/-- a slice of runs, wherever it lies -/
def Ro (w : World) (a : Option Addr) (L : List (Int × Int)) : Prop :=
  (a = none → L = []) ∧ ∀ i, i < L.length → ∃ b o, a = some ⟨b, o, none⟩ ∧ w.cell? ⟨b, o + i * 2, none⟩ = some (.int .u32 (rR L i)) ∧ w.cell? ⟨b, o + i * 2 + 1, none⟩ = some (.int .i64 (rN L i))

/-- a slice of runs of the call's own: nil, or a row of its own -/
def Rs (w : World) (e : TypeId) (a : Option Addr) (L : List (Int × Int)) : Prop :=
  (a = none ∧ L = []) ∨ ∃ g, a = some ⟨g, 0, none⟩ ∧ w.rowIs g e (L.length * 2) (rF (rR L) (rN L))

/-- a slice of numbers of the call's own -/
def Ns (w : World) (e : TypeId) (k : IntKind) (a : Option Addr) (X : List Int) : Prop :=
  (a = none ∧ X = []) ∨ ∃ g, a = some ⟨g, 0, none⟩ ∧ w.rowIs g e X.length (fun j => .int k (nth X j))

theorem Ro.later {w w' : World} {a : Option Addr} {L : List (Int × Int)} (h : Ro w a L) (hb : Below w.heap.size w w') : Ro w' a L :=
  ⟨h.1, fun i hi => by obtain ⟨b, o, e, c1, c2⟩ := h.2 i hi; exact ⟨b, o, e, cell_later hb c1, cell_later hb c2⟩⟩

theorem Rs.ro {w : World} {e : TypeId} {a : Option Addr} {L : List (Int × Int)} (h : Rs w e a L) : Ro w a L := by
  rcases h with ⟨rfl, rfl⟩ | ⟨g, rfl, hr⟩
  · exact ⟨fun _ => rfl, fun i hi => by simp at hi⟩
  · refine ⟨(fun e => by cases e), fun i hi => ⟨g, 0, rfl, ?_, ?_⟩⟩
    · have := hr.cell (i := i * 2) (by omega)
      rw [rF_even] at this
      simpa using this
    · have := hr.cell (i := i * 2 + 1) (by omega)
      rw [rF_odd] at this
      simpa using this

theorem Rs.later {w w' : World} {e : TypeId} {a : Option Addr} {L : List (Int × Int)} (h : Rs w e a L) (hb : Below w.heap.size w w') : Rs w' e a L := by
  rcases h with h | ⟨g, rfl, hr⟩
  · exact .inl h
  · exact .inr ⟨g, rfl, hr.of_block (hb.block g hr.lt)⟩

theorem Ns.later {w w' : World} {e : TypeId} {k : IntKind} {a : Option Addr} {X : List Int} (h : Ns w e k a X) (hb : Below w.heap.size w w') : Ns w' e k a X := by
  rcases h with h | ⟨g, rfl, hr⟩
  · exact .inl h
  · exact .inr ⟨g, rfl, hr.of_block (hb.block g hr.lt)⟩

theorem Ns.cell {w : World} {e : TypeId} {k : IntKind} {a : Option Addr} {X : List Int} (h : Ns w e k a X) {i : Nat} (hi : i < X.length) : ∃ g, a = some ⟨g, 0, none⟩ ∧ w.cell? ⟨g, i, none⟩ = some (.int k (nth X i)) := by
  rcases h with ⟨_, rfl⟩ | ⟨g, rfl, hr⟩
  · simp at hi
  · exact ⟨g, rfl, hr.cell hi⟩

theorem below_step {B : Nat} {w w1 w2 : World} (h : Below B w w1) (k : Below w1.heap.size w1 w2) (hB : B ≤ w.heap.size) : Below B w w2 := h.trans (k.mono (Nat.le_trans hB h.size))
theorem belowDrewN {B n : Nat} {w w' : World} (h : Below B w w') : Below B w (w'.drewN n) := ⟨h.os, h.tape, h.output, h.size, h.block⟩

def zrun : Value := .agg #[.int .u32 0, .int .i64 0]
theorem info36 : (Try.prog.info? 36).map (fun i => (i.zero, i.size, i.bytes)) = some (some zrun, 2, 16) := by kernel_rfl
theorem info46 : (Try.prog.info? 46).map (fun i => (i.zero, i.size, i.bytes)) = some (some zrun, 2, 16) := by kernel_rfl
theorem info30 : (Try.prog.info? 30).map (fun i => (i.zero, i.size, i.bytes)) = some (some (.int .u32 0), 1, 4) := by kernel_rfl
theorem info2 : (Try.prog.info? 2).map (fun i => (i.zero, i.size, i.bytes)) = some (some (.int .i64 0), 1, 8) := by kernel_rfl

theorem run_make_runs (t e : TypeId) (ht : Try.prog.underlying t = some (.slice e)) (hinfo : (Try.prog.info? e).map (fun i => (i.zero, i.size, i.bytes)) = some (some zrun, 2, 16)) (n : Nat) (hn : n ≤ 1048576) (w : World) :
    (Instr.makeSlice t (.int .i64 (n : Int)) (.int .i64 (n : Int))).run Try.prog w = .ok (.slice (some ⟨w.heap.size, 0, none⟩) n n) (w.alloc (.cells (madeCells #[.int .u32 0, .int .i64 0] (n * 2)) e)) := by
  obtain ⟨i, hi, hz, hs, hb⟩ := info_parts hinfo
  have hr := run_make (P := Try.prog) w t e i zrun ht hi hz .i64 .i64 n n (by omega) (Int.le_refl _) (by rw [hb]; omega) (by omega)
  simp only [Int.toNat_natCast, hs] at hr
  exact hr

theorem rowIs_made2 (w : World) (n : Nat) (e : TypeId) : (w.alloc (.cells (madeCells #[.int .u32 0, .int .i64 0] (n * 2)) e)).rowIs w.heap.size e (n * 2) (rF (fun _ => 0) (fun _ => 0)) := by
  have h := World.rowIs_alloc w (madeCells #[.int .u32 0, .int .i64 0] (n * 2)) e (rF (fun _ => 0) (fun _ => 0)) (fun i hi => by
    rw [size_madeCells] at hi
    simp [madeCells, hi, rF]
    rcases Nat.mod_two_eq_zero_or_one i with h | h <;> simp [h])
  rw [size_madeCells] at h
  exact h

set_option maxHeartbeats 1000000 in
theorem clone_any (a : Option Addr) (c : Nat) (L : List (Int × Int)) (w : World) (hlen : L.length ≤ 1048576) (hb : Hid (Ro w a L)) :
    Calls Try.prog 7 #[.slice a L.length c] w fun e w' => ∃ a', e = .returned (.slice a' L.length L.length) ∧ Rs w' 36 a' L ∧ Below w.heap.size w w' := by
  have q22 : ∀ (w : World) (a : Option Addr) (n c n' c' : Nat), (binOp .eql 22 (.slice a n c) (.slice none n' c')).run Try.prog w = .ok (.bool a.isNone) w := fun w a n c n' c' => Lib.run_eql_slice_nil w _ _ a n c n' c' Try.underlying22
  cases a with
  | none =>
    have hD := hb.out.1 rfl
    subst hD
    go_enter Try.func7, Try.ntmps7
    go_wp2
    go_ret
    exact ⟨none, rfl, .inl ⟨rfl, rfl⟩, Below.refl _ _⟩
  | some x =>
    have hmk := run_make_runs 22 36 Try.underlying22 info36 L.length hlen
    go_enter Try.func7, Try.ntmps7
    go_wp2
    go_loopw [4] (fun i wr => ∃ k : Nat, k ≤ L.length ∧ i = .int .i64 k ∧ Hid (Below w.heap.size w wr) ∧ Hid (wr.rowIs w.heap.size 36 (L.length * 2) (rF (fun j => if j < k then rR L j else 0) (fun j => if j < k then rN L j else 0)))) (fun i _ => L.length - (intOf i).toNat)
    case atStart => exact ⟨0, Nat.zero_le _, rfl, (Below.refl _ _).alloc (Nat.le_refl _) _, (rowIs_made2 _ _ _).congr (fun i _ => by simp [rF])⟩
    case round =>
      obtain ⟨k, hk, rfl, hnx, hrow⟩ := hrel
      by_cases hlt : k < L.length
      · obtain ⟨b, o, hx, hc1, hc2⟩ := hb.out.2 k hlt
        cases hx
        have hc1' := cell_later hnx.out hc1
        have hc2' := cell_later hnx.out hc2
        have hd1 := hrow.out.cell (i := k * 2) (by omega)
        have hd2 := hrow.out.cell (i := k * 2 + 1) (by omega)
        have hf1 := hrow.out.frozen (k * 2)
        have hf2 := hrow.out.frozen (k * 2 + 1)
        clear hc1 hc2 hmk q22
        go_wp2
        go_roundw
        case rel => exact ⟨k + 1, by omega, by go_num, (hnx.out.setCell (Nat.le_refl _) _).setCell (Nat.le_refl _) _, (row_set2 hrow.out k _ _).congr (rF_ext (fun j hj => by by_cases e : j = k <;> simp [e] <;> constructor <;> split <;> split <;> first | rfl | omega))⟩
        case measure => simp [intOf]; omega
      · go_wp2
        go_ret
        exact ⟨some ⟨w.heap.size, 0, none⟩, rfl, .inr ⟨_, rfl, hrow.out.congr (rF_ext (fun j hj => by rw [if_pos (by omega), if_pos (by omega)]; exact ⟨rfl, rfl⟩))⟩, hnx.out⟩

end Go.Proofs.Qxb6617377a
