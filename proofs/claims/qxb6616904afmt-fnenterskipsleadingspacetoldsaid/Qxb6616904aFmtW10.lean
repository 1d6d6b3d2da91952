import Derived.Test.Qxb6616904aFmtW9
namespace Go.Proofs.Qxb6616904aFmt
set_option linter.unusedVariables false
set_option linter.unusedSimpArgs false
open Go.RowKit Go.Extern.Stop Go.Stop Go.Extern

theorem offset_rd (rb : Nat) (D : List Int) (s : RS) (w : World) (h : Rd w rb D s) :
    Calls Tryf.prog 12 #[.pointer (some ⟨rb, 0, none⟩)] w fun e w' => e = .returned (.int .i64 s.pos) ∧ w' = w := by
  obtain ⟨da, dc, ev, la, cap, hr, _⟩ := h
  exact offset_any rb s.pos w (rd1 hr)

theorem zzErr_rd_nil (rb : Nat) (D : List Int) (s : RS) (w : World) (h : Rd w rb D s) (he : s.err = false) :
    Calls Tryf.prog 13 #[.pointer (some ⟨rb, 0, none⟩)] w fun e w' => e = .returned .nilIface ∧ w' = w := by
  obtain ⟨da, dc, ev, la, cap, hr, _, _, _, hev, _⟩ := h
  rcases hev with ⟨_, rfl⟩ | ⟨h, _⟩
  · exact zzErr_nil rb w (rd2 hr)
  · rw [he] at h; cases h

theorem zzErr_rd_some (rb : Nat) (D : List Int) (s : RS) (w : World) (h : Rd w rb D s) (he : s.err = true) :
    Calls Tryf.prog 13 #[.pointer (some ⟨rb, 0, none⟩)] w fun e w' => ∃ v, e = .returned (.iface 62 v) ∧ w' = w := by
  obtain ⟨da, dc, ev, la, cap, hr, _, _, _, hev, _⟩ := h
  rcases hev with ⟨h, _⟩ | ⟨_, v, rfl⟩
  · rw [he] at h; cases h
  · exact (zzErr_some rb 62 v w (rd2 hr)).mono fun e w' ⟨h1, h2⟩ => ⟨v, h1, h2⟩

theorem zzDepth_rd (rb : Nat) (D : List Int) (s : RS) (w : World) (h : Rd w rb D s) :
    Calls Tryf.prog 19 #[.pointer (some ⟨rb, 0, none⟩)] w fun e w' => e = .returned (.int .i64 s.lv.length) ∧ w' = w := by
  obtain ⟨da, dc, ev, la, cap, hr, _⟩ := h
  exact zzDepth_any rb _ cap la w (rd3 hr)

theorem zzAt_rd (rb : Nat) (D : List Int) (s : RS) (i : Nat) (w : World) (h : Rd w rb D s) :
    Calls Tryf.prog 14 #[.pointer (some ⟨rb, 0, none⟩), .int .i64 i] w fun e w' => e = .returned (.int .u8 (pk D i)) ∧ w' = w := by
  obtain ⟨da, dc, ev, la, cap, hr, hb, _⟩ := h
  exact zzAt_any rb dc da D i w (rd0 hr) hb

theorem zzLevelEnd_rd (rb : Nat) (D : List Int) (s : RS) (k : Nat) (x : Int × Bool) (w : World) (h : Rd w rb D s) (hx : s.lv[k]? = some x) :
    Calls Tryf.prog 20 #[.pointer (some ⟨rb, 0, none⟩), .int .i64 k] w fun e w' => e = .returned (.int .u8 x.1) ∧ w' = w := by
  obtain ⟨da, dc, ev, la, cap, hr, hb, _, _, _, hlv, _⟩ := h
  have hk := (List.getElem?_eq_some_iff.1 hx).1
  rcases hlv with ⟨_, h2, _⟩ | ⟨lb, g, rfl, hlb, h3, h4, h5, h6⟩
  · rw [h2] at hk; simp at hk
  · have hc := h5.cell (i := k * 4) (by omega)
    rw [(h6.2 k x hx).1] at hc
    exact zzLevelEnd_any rb _ cap lb k x.1 w hk (rd3 hr) hc

theorem zzLevelItems_rd (rb : Nat) (D : List Int) (s : RS) (k : Nat) (x : Int × Bool) (w : World) (h : Rd w rb D s) (hx : s.lv[k]? = some x) :
    Calls Tryf.prog 21 #[.pointer (some ⟨rb, 0, none⟩), .int .i64 k] w fun e w' => e = .returned (.bool x.2) ∧ w' = w := by
  obtain ⟨da, dc, ev, la, cap, hr, hb, _, _, _, hlv, _⟩ := h
  have hk := (List.getElem?_eq_some_iff.1 hx).1
  rcases hlv with ⟨_, h2, _⟩ | ⟨lb, g, rfl, hlb, h3, h4, h5, h6⟩
  · rw [h2] at hk; simp at hk
  · have hc := h5.cell (i := k * 4 + 1) (by omega)
    rw [(h6.2 k x hx).2] at hc
    exact zzLevelItems_any rb _ cap lb k x.2 w hk (rd3 hr) hc

theorem newReader_rd (da : Option Addr) (dc : Nat) (D : List Int) (w : World) (hlen : D.length ≤ 1048576) (hb : Bs w da D) :
    Calls Tryf.prog 10 #[.slice da D.length dc] w fun e w' => e = .returned (.pointer (some ⟨w.heap.size, 0, none⟩)) ∧ Below w.heap.size w w' ∧ Rd w' w.heap.size D ⟨0, false, []⟩ := by
  refine (newReader_any _ da D.length dc rfl w).mono ?_
  rintro e w' ⟨rfl, rfl⟩
  have hbel : Below w.heap.size w (w.alloc (.cells #[.slice da D.length dc, .int .i64 0, .nilIface, .slice none 0 0] 45)) := (Below.refl _ _).alloc (Nat.le_refl _) _
  refine ⟨rfl, hbel, da, dc, .nilIface, none, 0, ?_, hb.later hbel hb.lo, hb.lo, hlen, .inl ⟨rfl, rfl⟩, .inl ⟨rfl, rfl, rfl⟩, ⟨Nat.zero_le _, Nat.zero_le _, fun x hx => by simp at hx⟩⟩
  exact World.rowIs_alloc w #[.slice da D.length dc, .int .i64 0, .nilIface, .slice none 0 0] 45 _ (fun i hi => by
    have hi : i < 4 := hi
    match i, hi with
    | 0, _ => rfl
    | 1, _ => rfl
    | 2, _ => rfl
    | 3, _ => rfl)

set_option maxHeartbeats 400000 in
theorem zzBytes8_yes (a : Option Addr) (n c : Nat) (i : Int) (w : World) (h : n ≤ 1048576) :
    Calls Tryf.prog 8 #[.slice a n c, .int .i64 i] w fun e w' => e = .returned (.bool true) ∧ w' = w := by
  go_enter Tryf.func8, Tryf.ntmps8
  go_wp2
  go_ret
  exact ⟨rfl, rfl⟩

set_option maxHeartbeats 400000 in
theorem zzBytes8_no (a : Option Addr) (n c : Nat) (i : Int) (w : World) (h : ¬ n ≤ 1048576) :
    Calls Tryf.prog 8 #[.slice a n c, .int .i64 i] w fun e w' => e = .returned (.bool false) ∧ w' = w := by
  go_enter Tryf.func8, Tryf.ntmps8
  go_wp2
  go_ret
  exact ⟨rfl, rfl⟩

end Go.Proofs.Qxb6616904aFmt
