/-
  WHAT EVERY ROW OF THIS SEAT WANTS: the closed facts on the program, and what a slice of runs that came in is to the walks.
-/
import Derived.Test.Qxb6617377aW1
import Derived.Test.Qxb6617377aHash
import Derived.ProofKit
import Derived.OpenShut
import Derived.ShutString
import Derived.ChangeOld
import Derived.Below
import Derived.Deep.SlicePairs
namespace Go.Proofs.Qxb6617377a
set_option linter.unusedVariables false
set_option linter.unusedSimpArgs false
open Go.ChangeShapes Go.WideShapes Go.ChangeAt Go.RowKit

theorem own : ownKnob Try.prog.godebug = none := by kernel_rfl
theorem laidOut : laidOutB Try.prog = true := by kernel_rfl

/-- every count within its range -/
def okN (L : List (Int × Int)) : Prop := ∀ p ∈ L, -9223372036854775808 ≤ p.2 ∧ p.2 ≤ 9223372036854775807

theorem runs_in {H : Type} {enc : TypeId × Value → H} {W : World} {base : Nat} {sp : Nat → Bool} {hn : Bool} {a : Option Addr} {len cap : Nat} {d : DataW H} {p : List MemPlace}
    (h : DataW.Trod enc Try.prog W base sp hn 22 (.slice a len cap) d p) : ∃ L : List (Int × Int), L.length = len ∧ Ro W a L ∧ okL L ∧ okN L := by
  obtain ⟨fuel, hf⟩ := h
  rcases Go.Deep.open_slice_pairs Try.underlying22 Try.underlying36 (by kernel_rfl) rfl rfl (by kernel_rfl) (by kernel_rfl) hf with ⟨hcs, _⟩ | ⟨x, l, c, m, n, V0, V1, D0, D1, P0, P1, hcs, _, hl, hm, hmm, _, hcell⟩
  · simp [Value.cells] at hcs
    obtain ⟨rfl, rfl, rfl⟩ := hcs
    exact ⟨[], rfl, ⟨fun _ => rfl, fun i hi => by simp at hi⟩, (fun p hp => by simp at hp), (fun p hp => by simp at hp)⟩
  · simp [Value.cells] at hcs
    obtain ⟨rfl, rfl, rfl⟩ := hcs
    have hlm : len ≤ m := by rw [hmm]; split <;> omega
    have each : ∀ i, i < len → ∃ r k : Int, V0 i = .int .u32 r ∧ V1 i = .int .i64 k ∧ (0 ≤ r ∧ r ≤ 4294967295) ∧ (-9223372036854775808 ≤ k ∧ k ≤ 9223372036854775807) := by
      intro i hi
      obtain ⟨_, _, t0, t1⟩ := hcell i (by omega)
      obtain ⟨r, e0, _, w0⟩ := DataW.trod_int Try.underlying30 t0
      obtain ⟨k, e1, _, w1⟩ := DataW.trod_int Try.underlying2 t1
      simp at e0 e1
      refine ⟨r, k, e0, e1, ?_, ?_⟩
      · simpa [Lit.wf, IntKind.min, IntKind.max, IntKind.signed, IntKind.bits] using w0
      · simpa [Lit.wf, IntKind.min, IntKind.max, IntKind.signed, IntKind.bits] using w1
    have hR : ∀ i, i < len → rR ((List.range len).map fun i => (intOf (V0 i), intOf (V1 i))) i = intOf (V0 i) := fun i hi => by simp [rR, List.getD, hi]
    have hN : ∀ i, i < len → rN ((List.range len).map fun i => (intOf (V0 i), intOf (V1 i))) i = intOf (V1 i) := fun i hi => by simp [rN, List.getD, hi]
    refine ⟨(List.range len).map fun i => (intOf (V0 i), intOf (V1 i)), by simp, ⟨(fun e => by cases e), fun i hi => ?_⟩, fun q hq => ?_, fun q hq => ?_⟩
    · have hi' : i < len := by simpa using hi
      obtain ⟨r, k, e0, e1, _, _⟩ := each i hi'
      obtain ⟨c0, c1, _, _⟩ := hcell i (by omega)
      obtain ⟨z0, _, _, _⟩ := hcell 0 (by omega)
      obtain ⟨b, o, spot⟩ := x
      have hspot : spot = none := by simpa [Addr.add] using World.cell?_spot z0
      subst hspot
      rw [Addr.add_lit] at c0 c1
      refine ⟨b, o, rfl, ?_, ?_⟩
      · rw [c0, hR i hi', e0]; rfl
      · rw [Nat.add_assoc, c1, hN i hi', e1]; rfl
    · obtain ⟨i, hi, rfl⟩ := List.mem_map.1 hq
      obtain ⟨r, k, e0, e1, b0, b1⟩ := each i (by simpa using hi)
      dsimp only
      rw [e0]
      exact b0
    · obtain ⟨i, hi, rfl⟩ := List.mem_map.1 hq
      obtain ⟨r, k, e0, e1, b0, b1⟩ := each i (by simpa using hi)
      dsimp only
      rw [e1]
      exact b1

end Go.Proofs.Qxb6617377a
