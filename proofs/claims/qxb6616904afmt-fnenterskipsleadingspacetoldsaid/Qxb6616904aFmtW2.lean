import Derived.Test.Qxb6616904aFmtW1
import Derived.Test.Qxb6616904aFmtFmt
namespace Go.Proofs.Qxb6616904aFmt
open Go.RowKit Go.Extern.Stop Go.Stop Go.Extern

set_option maxHeartbeats 400000 in
theorem failSyntax_any (F : Interp) (rb : Nat) (p : Int) (w : World) (hF : F.answers w.tape) (hr : rb < w.heap.size) (h2 : w.cell? ⟨rb, 2, none⟩ = some .nilIface) (f2 : w.frozen? ⟨rb, 2, none⟩ = false) :
    Calls Tryf.prog 29 #[.pointer (some ⟨rb, 0, none⟩), .int .i64 p] w fun e w' => e = .returned (.tuple #[]) ∧ ∃ v w1, Below w.heap.size w w1 ∧ w' = w1.setCell ⟨rb, 2, none⟩ (.iface 62 v) := by
  go_enter Tryf.func29, Tryf.ntmps29
  go_wp2_with fail
  refine (errorf1 F w.heap.size (wrap64 (p + 1)) _ (by exact hF) (by go_simp)).mono ?_
  rintro e w1 ⟨a, rfl, hb⟩
  have hb1 : Below w.heap.size w w1 := ((Below.refl _ _).alloc (Nat.le_refl _) _).trans (hb.mono (by simp))
  have h2' := (hb1.cell (p := ⟨rb, 2, none⟩) hr).trans h2
  have f2' := (hb1.frozen (p := ⟨rb, 2, none⟩) hr).trans f2
  go_wp2_with fail
  refine (fail_any rb 62 _ _ h2' f2').mono ?_
  rintro e w2 ⟨rfl, rfl⟩
  go_wp2
  go_end0
  exact ⟨rfl, _, w1, hb1, rfl⟩

set_option maxHeartbeats 1000000 in
theorem skipSpace_any (rb dc : Nat) (da : Option Addr) (D : List Int) (pos : Nat) (w : World) (hlen : D.length ≤ 1048576) (hpos : pos ≤ D.length)
    (h0 : w.cell? ⟨rb, 0, none⟩ = some (.slice da D.length dc)) (h1 : w.cell? ⟨rb, 1, none⟩ = some (.int .i64 pos)) (f1 : w.frozen? ⟨rb, 1, none⟩ = false) (hb : Hid (Bs w da D)) :
    Calls Tryf.prog 27 #[.pointer (some ⟨rb, 0, none⟩)] w fun e w' => e = .returned (.tuple #[]) ∧ ∃ n, w' = (w.setCell ⟨rb, 1, none⟩ (.int .i64 (skip D pos))).drewN n := by
  go_enter Tryf.func27, Tryf.ntmps27
  go_wp2
  go_quiet (fail)
  go_wp2
  go_loop [3] (fun i => ∃ k : Nat, k ≤ D.length ∧ i = .int .i64 k ∧ Hid (skip D k = skip D pos)) (fun i => D.length - (intOf i).toNat)
  case atStart => exact ⟨pos, hpos, rfl, rfl⟩
  case round =>
    obtain ⟨k, hk, rfl, hs⟩ := hrel
    by_cases hlt : k < D.length
    · obtain ⟨db, rfl, hc⟩ := hb.out.cell hlt
      by_cases hsp : spB (pk D k) = true
      · have hle := spB_le hsp
        have hst : Hid (skip D (k + 1) = skip D pos) := (skip_step hlt hsp).symm.trans hs.out
        go_wp2_with (go_at_call 34; refine (isSpace_any _ _).mono ?_; rintro e w' ⟨rfl, rfl⟩)
        go_round
        case rel => exact ⟨k + 1, by omega, by go_num, hst⟩
        case measure => simp [intOf]; omega
      · have hst : k = skip D pos := (skip_stop (fun h => hsp h.2)).symm.trans hs.out
        have Hst : Hid (k = skip D pos) := hst
        clear hst
        have hsp' : spB (pk D k) = false := by simpa using hsp
        clear hsp
        by_cases hle : pk D k ≤ 32
        · go_wp2_with (go_at_call 34; refine (isSpace_any _ _).mono ?_; rintro e w' ⟨rfl, rfl⟩)
          go_end0
          exact ⟨rfl, nq, by rw [← Hst.out]; rfl⟩
        · go_wp2_with (go_at_call 34; refine (isSpace_any _ _).mono ?_; rintro e w' ⟨rfl, rfl⟩)
          go_end0
          exact ⟨rfl, nq, by rw [← Hst.out]; rfl⟩
    · have hst : k = skip D pos := (skip_stop (fun h => hlt h.1)).symm.trans hs.out
      have Hst : Hid (k = skip D pos) := hst
      clear hst
      go_wp2
      go_end0
      exact ⟨rfl, nq, by rw [← Hst.out]; rfl⟩

/-- a slice of bytes, wherever it lies -/
def Bo (w : World) (a : Option Addr) (D : List Int) : Prop := (a = none → D = []) ∧ ∀ i, i < D.length → ∃ b o, a = some ⟨b, o, none⟩ ∧ w.cell? ⟨b, o + i, none⟩ = some (.int .u8 (pk D i))

theorem Bs.bo {w : World} {da : Option Addr} {D : List Int} (h : Bs w da D) : Bo w da D := by
  refine ⟨fun e => ?_, fun i hi => ?_⟩
  · rcases h with ⟨_, h⟩ | ⟨db, h, _⟩
    · exact h
    · rw [e] at h; cases h
  · obtain ⟨db, e, hc⟩ := h.cell hi
    exact ⟨db, 0, e, by simpa using hc⟩

theorem info5 : (Tryf.prog.info? 5).map (fun i => (i.zero, i.size, i.bytes)) = some (some (.int .u8 0), 1, 1) := by kernel_rfl

set_option maxHeartbeats 1000000 in
theorem zzClone_any (a : Option Addr) (c : Nat) (D : List Int) (w : World) (hlen : D.length ≤ 1048576) (hb : Hid (Bo w a D)) :
    Calls Tryf.prog 9 #[.slice a D.length c] w fun e w' => ∃ a', e = .returned (.slice a' D.length D.length) ∧ Bs w' a' D ∧ Below w.heap.size w w' := by
  have q22 : ∀ (w : World) (a : Option Addr) (n c n' c' : Nat), (binOp .eql 22 (.slice a n c) (.slice none n' c')).run Tryf.prog w = .ok (.bool a.isNone) w := fun w a n c n' c' => Lib.run_eql_slice_nil w _ _ a n c n' c' Tryf.underlying22
  cases a with
  | none =>
    have hD := hb.out.1 rfl
    subst hD
    go_enter Tryf.func9, Tryf.ntmps9
    go_wp2
    go_ret
    exact ⟨none, rfl, .inl ⟨rfl, rfl⟩, Below.refl _ _⟩
  | some x =>
    have hmk := run_make_row' (P := Tryf.prog) 22 5 (.int .u8 0) 1 Tryf.underlying22 info5 rfl .i64 .i64 D.length (by omega) (by omega)
    go_enter Tryf.func9, Tryf.ntmps9
    go_wp2
    go_loopw [4] (fun i wr => ∃ k : Nat, k ≤ D.length ∧ i = .int .i64 k ∧ Below w.heap.size w wr ∧ Hid (wr.rowIs w.heap.size 5 D.length (fun j => .int .u8 (if j < k then pk D j else 0)))) (fun i _ => D.length - (intOf i).toNat)
    case atStart => exact ⟨0, Nat.zero_le _, rfl, (Below.refl _ _).alloc (Nat.le_refl _) _, (World.rowIs_made _ _ _ _).congr (fun i _ => by simp)⟩
    case round =>
      obtain ⟨k, hk, rfl, hnx, hrow⟩ := hrel
      by_cases hlt : k < D.length
      · obtain ⟨b, o, hx, hc⟩ := hb.out.2 k hlt
        cases hx
        have hc' := (hnx.cell (p := ⟨b, o + k, none⟩) (World.block_lt_of_cell? _ _ hc)).trans hc
        have hd := hrow.out.cell hlt
        have hf := hrow.out.frozen k
        clear hc hmk q22
        go_wp2
        go_roundw
        case rel => exact ⟨k + 1, by omega, by go_num, hnx.setCell (Nat.le_refl _) _, (hrow.out.set k _).congr (fun j hj => by by_cases e : j = k <;> simp [e] <;> split <;> split <;> first | rfl | omega)⟩
        case measure => simp [intOf]; omega
      · go_wp2
        go_ret
        exact ⟨some ⟨w.heap.size, 0, none⟩, rfl, .inr ⟨_, rfl, hrow.out.congr (fun j hj => by rw [if_pos (by omega)])⟩, hnx⟩

end Go.Proofs.Qxb6616904aFmt
