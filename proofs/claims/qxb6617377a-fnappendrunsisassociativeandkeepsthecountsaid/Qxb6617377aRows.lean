/-
  No cell of these rows narrows 'for every input' (looked for: loops, veiled, ifaces, maps, wideKeys, modest, calm, conditions, laid).
  DERIVED. THE GIVEN ROWS OF THIS SEAT. 3 by the template 'for every input the law returns true; each argument reads behind the call as it read before'; 0 by the template 'total and deterministic' (their statements: Qxb6617377aTotals.lean).
  GIVEN WITH THE SEED: the statements are not yours to turn. If you find one false, say at which input.
  Laid BY PROGRAM, IN A SANDBOX (cutbox-rows.mjs): the forced cells as the released guide's own fill.sh prints them over the translation 8648e6afbfe3825b… (all of the seat's roots in one cut). By AI agents, Wed Nov 11 2026. No macro, syntax, notation, axiom, sorry.
-/
import Derived.Test.Qxb6617377aChecked
import GoSem.Claim
import GoSem.ClaimJoined
import GoSem.ClaimMapViews
import Derived.JoinedTies
import Derived.KernelRfl
namespace Go.Proofs.Qxb6617377a
/- THE CELL 'sum', in the pinned program and in every row, IS THE sha256 OF THE DUMP (.gsa) THAT Qxb6617377aProg.lean LOADS. Nothing in Lean hashes anything: it is a label: what it is worth is what the hold of that sum in a sandbox is worth. -/
noncomputable def Try.pinned : Pinned := { name := "qxb6617377a", sum := "8648e6afbfe3825bde071196ae079dce78bb939dcca5b060cb2a4f00fec3c925", checked := Try.checked }
namespace Rows
def none {H : Type} : Left H := { results := [], args := [] }

/-- 'zzlaws_internal_rope_b1.FnRecentAtTopBitOfAnyRunFlipsTopBitOfSlot': WHATEVER THE INPUT: true; the input reads as it did. -/
def fnRecentAtTopBitOfAnyRunFlipsTopBitOfSlotSpec : ChangeSpec := { name := "fnRecentAtTopBitOfAnyRunFlipsTopBitOfSlot", fn := fun _ => fun
  | [d1, d2, d3] => { results := [.lit (.bool true)], args := [d1, d2, d3] }
  | _ => none }
def fnRecentAtTopBitOfAnyRunFlipsTopBitOfSlotRow : OpenClaim := { program := "qxb6617377a", sum := "8648e6afbfe3825bde071196ae079dce78bb939dcca5b060cb2a4f00fec3c925", func := "example.com/denote/denote/zzlaws_internal_rope_b1.FnRecentAtTopBitOfAnyRunFlipsTopBitOfSlot", spec := "fnRecentAtTopBitOfAnyRunFlipsTopBitOfSlot", apart := false }
def FnRecentAtTopBitOfAnyRunFlipsTopBitOfSlotSaid : Prop := fnRecentAtTopBitOfAnyRunFlipsTopBitOfSlotRow.holds Try.pinned (OpenSpec.ofChange fnRecentAtTopBitOfAnyRunFlipsTopBitOfSlotSpec)

/-- ITS FALSE NEIGHBOUR: 'it returns false'. Refute it at one input. -/
def fnRecentAtTopBitOfAnyRunFlipsTopBitOfSlotWrong : ChangeSpec := { name := "fnRecentAtTopBitOfAnyRunFlipsTopBitOfSlot", fn := fun _ => fun
  | [d1, d2, d3] => { results := [.lit (.bool false)], args := [d1, d2, d3] }
  | _ => none }
def FnRecentAtTopBitOfAnyRunFlipsTopBitOfSlotWrongFalsely : Prop := fnRecentAtTopBitOfAnyRunFlipsTopBitOfSlotRow.holds Try.pinned (OpenSpec.ofChange fnRecentAtTopBitOfAnyRunFlipsTopBitOfSlotWrong)

/-- 'zzlaws_internal_rope_b1.FnAppendRunsMergesEqualNeighboursAtAnyCut': WHATEVER THE INPUT: true; the input reads as it did. -/
def fnAppendRunsMergesEqualNeighboursAtAnyCutSpec : ChangeSpec := { name := "fnAppendRunsMergesEqualNeighboursAtAnyCut", fn := fun _ => fun
  | [d1, d2, d3] => { results := [.lit (.bool true)], args := [d1, d2, d3] }
  | _ => none }
def fnAppendRunsMergesEqualNeighboursAtAnyCutRow : OpenClaim := { program := "qxb6617377a", sum := "8648e6afbfe3825bde071196ae079dce78bb939dcca5b060cb2a4f00fec3c925", func := "example.com/denote/denote/zzlaws_internal_rope_b1.FnAppendRunsMergesEqualNeighboursAtAnyCut", spec := "fnAppendRunsMergesEqualNeighboursAtAnyCut", apart := false }
def FnAppendRunsMergesEqualNeighboursAtAnyCutSaid : Prop := fnAppendRunsMergesEqualNeighboursAtAnyCutRow.holds Try.pinned (OpenSpec.ofChange fnAppendRunsMergesEqualNeighboursAtAnyCutSpec)

/-- ITS FALSE NEIGHBOUR: 'it returns false'. Refute it at one input. -/
def fnAppendRunsMergesEqualNeighboursAtAnyCutWrong : ChangeSpec := { name := "fnAppendRunsMergesEqualNeighboursAtAnyCut", fn := fun _ => fun
  | [d1, d2, d3] => { results := [.lit (.bool false)], args := [d1, d2, d3] }
  | _ => none }
def FnAppendRunsMergesEqualNeighboursAtAnyCutWrongFalsely : Prop := fnAppendRunsMergesEqualNeighboursAtAnyCutRow.holds Try.pinned (OpenSpec.ofChange fnAppendRunsMergesEqualNeighboursAtAnyCutWrong)

/-- 'zzlaws_internal_rope_b1.FnAppendRunsIsAssociativeAndKeepsTheCount': WHATEVER THE INPUT: true; the input reads as it did. -/
def fnAppendRunsIsAssociativeAndKeepsTheCountSpec : ChangeSpec := { name := "fnAppendRunsIsAssociativeAndKeepsTheCount", fn := fun _ => fun
  | [d1, d2, d3] => { results := [.lit (.bool true)], args := [d1, d2, d3] }
  | _ => none }
def fnAppendRunsIsAssociativeAndKeepsTheCountRow : OpenClaim := { program := "qxb6617377a", sum := "8648e6afbfe3825bde071196ae079dce78bb939dcca5b060cb2a4f00fec3c925", func := "example.com/denote/denote/zzlaws_internal_rope_b1.FnAppendRunsIsAssociativeAndKeepsTheCount", spec := "fnAppendRunsIsAssociativeAndKeepsTheCount", apart := false }
def FnAppendRunsIsAssociativeAndKeepsTheCountSaid : Prop := fnAppendRunsIsAssociativeAndKeepsTheCountRow.holds Try.pinned (OpenSpec.ofChange fnAppendRunsIsAssociativeAndKeepsTheCountSpec)

/-- ITS FALSE NEIGHBOUR: 'it returns false'. Refute it at one input. -/
def fnAppendRunsIsAssociativeAndKeepsTheCountWrong : ChangeSpec := { name := "fnAppendRunsIsAssociativeAndKeepsTheCount", fn := fun _ => fun
  | [d1, d2, d3] => { results := [.lit (.bool false)], args := [d1, d2, d3] }
  | _ => none }
def FnAppendRunsIsAssociativeAndKeepsTheCountWrongFalsely : Prop := fnAppendRunsIsAssociativeAndKeepsTheCountRow.holds Try.pinned (OpenSpec.ofChange fnAppendRunsIsAssociativeAndKeepsTheCountWrong)

end Rows
end Go.Proofs.Qxb6617377a
