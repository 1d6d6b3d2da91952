/-
  WHAT EVERY CARD OF THIS SEAT WANTS: the closed facts on the program, and what a slice of bytes that came in is to the walks.
-/
import Derived.Test.Qxb6616904aFmtCards
import Derived.Test.Qxb6616904aFmtW10
import Derived.ProofKit
import Derived.OpenShut
import Derived.ShutString
import Derived.ChangeOld
import Derived.Below
import Derived.Stop.JoinedAt
import Derived.Stop.JoinedTold
import Derived.SevenToldRow
namespace Go.Proofs.Qxb6616904aFmt
set_option linter.unusedVariables false
set_option linter.unusedSimpArgs false
open Go.ChangeShapes Go.WideShapes Go.ChangeAt Go.RowKit Go.Kit
open Go.Extern.Stop Go.Stop Go.Extern

theorem own : ownKnob Tryf.prog.godebug = none := by kernel_rfl
theorem laidOut : laidOutB Tryf.prog = true := by kernel_rfl
theorem laidOutP : laidOutB Tryf.pinned.checked.prog = true := by kernel_rfl
theorem pstops : Tryf.pinned.checked.prog.stops = ["fmt.errorf"] := by kernel_rfl
theorem pknobs : Tryf.pinned.checked.prog.stopKnobs = [] := by kernel_rfl
theorem pquiet (os : Os) : Stop.quiet Tryf.pinned.checked.prog os := by
  intro k hk
  rw [pknobs] at hk
  cases hk

/-- a slice of bytes that came in, as the walks take it -/
theorem bytes_in {H : Type} {enc : TypeId × Value → H} {W : World} {base : Nat} {sp : Nat → Bool} {hn : Bool} {a : Option Addr} {len cap : Nat} {d : DataW H} {p : List MemPlace}
    (h : DataW.Trod enc Tryf.prog W base sp hn 22 (.slice a len cap) d p) : ∃ D : List Int, D.length = len ∧ Bo W a D := by
  obtain ⟨fuel, hf⟩ := h
  rcases open_ints Tryf.underlying22 Tryf.underlying5 (by kernel_rfl) hf with ⟨hcs, _⟩ | ⟨x, l, c, zs, hcs, _, hl, hm, hz, _, hcell, hwz⟩
  · simp [Value.cells] at hcs
    obtain ⟨rfl, rfl, rfl⟩ := hcs
    exact ⟨[], rfl, fun _ => rfl, fun i hi => by simp at hi⟩
  · simp [Value.cells] at hcs
    obtain ⟨rfl, rfl, rfl⟩ := hcs
    have hzl : len ≤ zs.length := by rw [hz]; split <;> omega
    refine ⟨zs.take len, (by simp; omega), (fun e => by cases e), fun i hi => ?_⟩
    have hi' : i < len := by simp at hi; omega
    have hc := hcell i (by omega)
    obtain ⟨b, o, spot⟩ := x
    have hspot : spot = none := by simpa [Addr.add] using World.cell?_spot (hcell 0 (by omega))
    subst hspot
    refine ⟨b, o, rfl, ?_⟩
    rw [Addr.add_lit] at hc
    rw [hc]
    simp [pk, List.getD, List.getElem?_take, hi']

end Go.Proofs.Qxb6616904aFmt
