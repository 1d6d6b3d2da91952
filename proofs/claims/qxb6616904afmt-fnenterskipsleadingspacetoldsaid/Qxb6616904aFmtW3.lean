import Derived.Test.Qxb6616904aFmtW2
import Derived.RegionTactic
import Derived.BigRegion
namespace Go.Proofs.Qxb6616904aFmt
open Go.RowKit Go.Extern.Stop Go.Stop Go.Extern

/-- the reader's four cells -/
def rdF (dv pv ev lv : Value) : Nat → Value
  | 0 => dv
  | 1 => pv
  | 2 => ev
  | _ => lv

/-- all blocks that were there, but block rb, are as they were -/
structure Fr (rb : Nat) (w w' : World) : Prop where
  os : w'.os = w.os
  tape : w'.tape = w.tape
  output : w'.output = w.output
  size : w.heap.size ≤ w'.heap.size
  block : ∀ k, k < w.heap.size → k ≠ rb → w'.heap[k]? = w.heap[k]?

theorem Fr.refl (rb : Nat) (w : World) : Fr rb w w := ⟨rfl, rfl, rfl, Nat.le_refl _, fun _ _ _ => rfl⟩
theorem Fr.trans {rb : Nat} {a b c : World} (h : Fr rb a b) (k : Fr rb b c) : Fr rb a c :=
  ⟨k.os.trans h.os, k.tape.trans h.tape, k.output.trans h.output, Nat.le_trans h.size k.size, fun i hi hn => (k.block i (Nat.lt_of_lt_of_le hi h.size) hn).trans (h.block i hi hn)⟩
theorem Fr.ofBelow {rb : Nat} {w w' : World} (h : Below w.heap.size w w') : Fr rb w w' := ⟨h.os, h.tape, h.output, h.size, fun k hk _ => h.block k hk⟩
theorem Fr.ofBelowB {rb B : Nat} {w w' : World} (h : Below B w w') (hB : w.heap.size ≤ B) : Fr rb w w' := ⟨h.os, h.tape, h.output, h.size, fun k hk _ => h.block k (by omega)⟩
theorem Fr.setCell {rb o : Nat} {w w' : World} (h : Fr rb w w') (v : Value) : Fr rb w (w'.setCell ⟨rb, o, none⟩ v) :=
  h.trans ⟨rfl, rfl, rfl, by simp [World.setCell], fun k _ hn => Below.heap_setCell _ _ _ _ hn⟩
theorem Fr.drewN {rb n : Nat} {w w' : World} (h : Fr rb w w') : Fr rb w (w'.drewN n) := ⟨h.os, h.tape, h.output, h.size, h.block⟩
theorem Fr.below {rb B : Nat} {w w' : World} (h : Fr rb w w') (hB : B ≤ rb) (hr : rb < w.heap.size) : Below B w w' :=
  ⟨h.os, h.tape, h.output, h.size, fun k hk => h.block k (by omega) (by omega)⟩
theorem Fr.row {rb b t n : Nat} {f : Nat → Value} {w w' : World} (h : Fr rb w w') (hr : w.rowIs b t n f) (hn : b ≠ rb) : w'.rowIs b t n f := hr.of_block (h.block b hr.lt hn)

theorem rdF_set1 (dv pv ev lv x : Value) (j : Nat) : (if j = 1 then x else rdF dv pv ev lv j) = rdF dv x ev lv j := by
  match j with
  | 0 => rfl
  | 1 => rfl
  | 2 => rfl
  | (n + 3) => simp [rdF]
theorem rdF_set2 (dv pv ev lv x : Value) (j : Nat) : (if j = 2 then x else rdF dv pv ev lv j) = rdF dv pv x lv j := by
  match j with
  | 0 => rfl
  | 1 => rfl
  | 2 => rfl
  | (n + 3) => simp [rdF]
theorem rdF_set3 (dv pv ev lv x : Value) (j : Nat) (hj : j < 4) : (if j = 3 then x else rdF dv pv ev lv j) = rdF dv pv ev x j := by
  match j with
  | 0 => rfl
  | 1 => rfl
  | 2 => rfl
  | 3 => rfl
  | (n + 4) => omega

section
variable {w : World} {rb : Nat} {dv pv ev lv : Value}
theorem rd0 (h : w.rowIs rb 45 4 (rdF dv pv ev lv)) : w.cell? ⟨rb, 0, none⟩ = some dv := h.cell (by omega)
theorem rd1 (h : w.rowIs rb 45 4 (rdF dv pv ev lv)) : w.cell? ⟨rb, 1, none⟩ = some pv := h.cell (by omega)
theorem rd2 (h : w.rowIs rb 45 4 (rdF dv pv ev lv)) : w.cell? ⟨rb, 2, none⟩ = some ev := h.cell (by omega)
theorem rd3 (h : w.rowIs rb 45 4 (rdF dv pv ev lv)) : w.cell? ⟨rb, 3, none⟩ = some lv := h.cell (by omega)
theorem rdS1 (h : w.rowIs rb 45 4 (rdF dv pv ev lv)) (x : Value) : (w.setCell ⟨rb, 1, none⟩ x).rowIs rb 45 4 (rdF dv x ev lv) := (h.set 1 x).congr fun _ _ => rdF_set1 ..
theorem rdS2 (h : w.rowIs rb 45 4 (rdF dv pv ev lv)) (x : Value) : (w.setCell ⟨rb, 2, none⟩ x).rowIs rb 45 4 (rdF dv pv x lv) := (h.set 2 x).congr fun _ _ => rdF_set2 ..
theorem rdS3 (h : w.rowIs rb 45 4 (rdF dv pv ev lv)) (x : Value) : (w.setCell ⟨rb, 3, none⟩ x).rowIs rb 45 4 (rdF dv pv ev x) := (h.set 3 x).congr fun j hj => rdF_set3 _ _ _ _ _ j hj
end

theorem rowIs_drewN {w : World} {n b t m : Nat} {f : Nat → Value} (h : w.rowIs b t m f) : (w.drewN n).rowIs b t m f := h

theorem skipSpace_rd (rb dc : Nat) (da : Option Addr) (D : List Int) (pos : Nat) (ev lv : Value) (w : World) (hlen : D.length ≤ 1048576) (hpos : pos ≤ D.length)
    (hr : w.rowIs rb 45 4 (rdF (.slice da D.length dc) (.int .i64 pos) ev lv)) (hb : Bs w da D) :
    Calls Tryf.prog 27 #[.pointer (some ⟨rb, 0, none⟩)] w fun e w' => e = .returned (.tuple #[]) ∧ Hid (Fr rb w w') ∧ Hid (w'.rowIs rb 45 4 (rdF (.slice da D.length dc) (.int .i64 (skip D pos)) ev lv)) := by
  refine (skipSpace_any rb dc da D pos w hlen hpos (rd0 hr) (rd1 hr) (hr.frozen 1) hb).mono ?_
  rintro e w' ⟨rfl, n, rfl⟩
  exact ⟨rfl, ((Fr.refl rb w).setCell _).drewN, rowIs_drewN (rdS1 hr _)⟩

theorem failSyntax_rd (F : Interp) (rb : Nat) (p : Int) (dv pv lv : Value) (w : World) (hF : F.answers w.tape)
    (hr : w.rowIs rb 45 4 (rdF dv pv .nilIface lv)) :
    Calls Tryf.prog 29 #[.pointer (some ⟨rb, 0, none⟩), .int .i64 p] w fun e w' => e = .returned (.tuple #[]) ∧ Hid (Fr rb w w') ∧ ∃ v, Hid (w'.rowIs rb 45 4 (rdF dv pv (.iface 62 v) lv)) := by
  refine (failSyntax_any F rb p w hF hr.lt (rd2 hr) (hr.frozen 2)).mono ?_
  rintro e w' ⟨rfl, v, w1, hb, rfl⟩
  exact ⟨rfl, (Fr.ofBelow hb).setCell _, v, rdS2 (hr.of_block (hb.block rb hr.lt)) _⟩

set_option maxHeartbeats 1000000 in
theorem enter_bad (F : Interp) (rb dc : Nat) (da : Option Addr) (D : List Int) (pos : Nat) (lv : Value) (w : World) (hF : F.answers w.tape) (hlen : D.length ≤ 1048576) (hpos : pos ≤ D.length)
    (hr : Hid (w.rowIs rb 45 4 (rdF (.slice da D.length dc) (.int .i64 pos) .nilIface lv))) (hb : Hid (Bs w da D)) (hlo : Hid (Lo da rb))
    (hc1 : (pk D (skip D pos) == 91) = false) (hc2 : (pk D (skip D pos) == 123) = false) :
    Calls Tryf.prog 11 #[.pointer (some ⟨rb, 0, none⟩)] w fun e w' => e = .returned (.tuple #[]) ∧ Fr rb w w' ∧ ∃ v, w'.rowIs rb 45 4 (rdF (.slice da D.length dc) (.int .i64 (skip D pos)) (.iface 62 v) lv) := by
  go_enter Tryf.func11, Tryf.ntmps11
  go_wp2_with fail
  refine (skipSpace_rd rb dc da D pos _ lv _ hlen hpos hr.out hb.out).mono ?_
  rintro e w1 ⟨rfl, hf1, hr1⟩
  have hb1 : Hid (Bs w1 da D) := hb.out.later (hf1.out.below (Nat.le_refl _) hr.out.lt) hlo.out
  have c0 := rd0 hr1.out
  have c1 := rd1 hr1.out
  have c2 := rd2 hr1.out
  go_wp2_with (first | (go_at_call 28; refine (peek_any rb dc da D (skip D pos) _ c0 c1 hb1).mono ?_; rintro e w' ⟨rfl, rfl⟩) | fail)
  refine (failSyntax_rd F rb _ _ _ _ _ (by rw [hf1.out.tape]; exact hF) hr1.out).mono ?_
  rintro e w2 ⟨rfl, hf2, v, hr2⟩
  go_wp2
  try simp only [Exit.inBlock, Exit.then]
  refine bodyPost_ret (results_none rfl _ _ _) rfl ?_
  exact ⟨rfl, hf1.out.trans hf2.out, v, hr2.out⟩

end Go.Proofs.Qxb6616904aFmt
