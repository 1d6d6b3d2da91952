/-
  No cell of these rows narrows 'for every input' (looked for: loops, veiled, ifaces, maps, wideKeys, modest, calm, conditions, laid).
  DERIVED. THE GIVEN ROWS OF THIS SEAT. 5 by the template 'for every input the law returns true; each argument reads behind the call as it read before'; 0 by the template 'total and deterministic' (their statements: Qxb6616904aFmtTotals.lean).
  GIVEN WITH THE SEED: the statements are not yours to turn. If you find one false, say at which input.
  Laid BY PROGRAM, IN A SANDBOX (cutbox-rows.mjs): the forced cells as the released guide's own fill.sh prints them over the translation 74bd8cda57f6d9f8… (all of the seat's roots in one cut). By AI agents, Wed Nov 11 2026. No macro, syntax, notation, axiom, sorry.
-/
import Derived.Test.Qxb6616904aFmtChecked
import GoSem.Claim
import GoSem.ClaimJoined
import GoSem.ClaimMapViews
import Derived.JoinedTies
import Derived.KernelRfl
namespace Go.Proofs.Qxb6616904aFmt
/- THE CELL 'sum', in the pinned program and in every row, IS THE sha256 OF THE DUMP (.gsa) THAT Qxb6616904aFmtProg.lean LOADS. Nothing in Lean hashes anything: it is a label: what it is worth is what the hold of that sum in a sandbox is worth. -/
noncomputable def Tryf.pinned : Pinned := { name := "qxb6616904afmt", sum := "74bd8cda57f6d9f8e51adc50aedb42e4eadf2ae8e1d89a236ee7978ddc95aa88", checked := Tryf.checked }
namespace Rows
def none {H : Type} : Left H := { results := [], args := [] }

/-- 'zzlaws_jsonread_b1.FnAtUnmovedByReads': WHATEVER THE INPUT: true; the input reads as it did. -/
def fnAtUnmovedByReadsSpec : ChangeSpec := { name := "fnAtUnmovedByReads", fn := fun _ => fun
  | [d1, d2] => { results := [.lit (.bool true)], args := [d1, d2] }
  | _ => none }
def fnAtUnmovedByReadsRow : OpenClaim := { program := "qxb6616904afmt", sum := "74bd8cda57f6d9f8e51adc50aedb42e4eadf2ae8e1d89a236ee7978ddc95aa88", func := "example.com/portcullis/portcullis/zzlaws_jsonread_b1.FnAtUnmovedByReads", spec := "fnAtUnmovedByReads", stops := ["fmt.errorf"], inPlace := ["fmt.errorf"], apart := false }
/-- NO THEOREM (fmt's text is open here; it may be false): for the released tool's asking of the row's closed facts alone. THE STATEMENT IS 'FnAtUnmovedByReadsToldSaid' (Qxb6616904aFmtCards.lean). -/
def FnAtUnmovedByReadsFormAsk : Prop := fnAtUnmovedByReadsRow.holds Tryf.pinned (OpenSpec.ofChange fnAtUnmovedByReadsSpec)

/-- ITS FALSE NEIGHBOUR: 'it returns false'. Refute it at one input. -/
def fnAtUnmovedByReadsWrong : ChangeSpec := { name := "fnAtUnmovedByReads", fn := fun _ => fun
  | [d1, d2] => { results := [.lit (.bool false)], args := [d1, d2] }
  | _ => none }
def FnAtUnmovedByReadsWrongFormAsk : Prop := fnAtUnmovedByReadsRow.holds Tryf.pinned (OpenSpec.ofChange fnAtUnmovedByReadsWrong)

/-- 'zzlaws_jsonread_b1.FnEnterNestsLeadingOpeners': WHATEVER THE INPUT: true; the input reads as it did. -/
def fnEnterNestsLeadingOpenersSpec : ChangeSpec := { name := "fnEnterNestsLeadingOpeners", fn := fun _ => fun
  | [d] => { results := [.lit (.bool true)], args := [d] }
  | _ => none }
def fnEnterNestsLeadingOpenersRow : OpenClaim := { program := "qxb6616904afmt", sum := "74bd8cda57f6d9f8e51adc50aedb42e4eadf2ae8e1d89a236ee7978ddc95aa88", func := "example.com/portcullis/portcullis/zzlaws_jsonread_b1.FnEnterNestsLeadingOpeners", spec := "fnEnterNestsLeadingOpeners", stops := ["fmt.errorf"], inPlace := ["fmt.errorf"], apart := false }
/-- NO THEOREM (fmt's text is open here; it may be false): for the released tool's asking of the row's closed facts alone. THE STATEMENT IS 'FnEnterNestsLeadingOpenersToldSaid' (Qxb6616904aFmtCards.lean). -/
def FnEnterNestsLeadingOpenersFormAsk : Prop := fnEnterNestsLeadingOpenersRow.holds Tryf.pinned (OpenSpec.ofChange fnEnterNestsLeadingOpenersSpec)

/-- ITS FALSE NEIGHBOUR: 'it returns false'. Refute it at one input. -/
def fnEnterNestsLeadingOpenersWrong : ChangeSpec := { name := "fnEnterNestsLeadingOpeners", fn := fun _ => fun
  | [d] => { results := [.lit (.bool false)], args := [d] }
  | _ => none }
def FnEnterNestsLeadingOpenersWrongFormAsk : Prop := fnEnterNestsLeadingOpenersRow.holds Tryf.pinned (OpenSpec.ofChange fnEnterNestsLeadingOpenersWrong)

/-- 'zzlaws_jsonread_b1.FnEnterSkipsLeadingSpace': WHATEVER THE INPUT: true; the input reads as it did. -/
def fnEnterSkipsLeadingSpaceSpec : ChangeSpec := { name := "fnEnterSkipsLeadingSpace", fn := fun _ => fun
  | [d1, d2] => { results := [.lit (.bool true)], args := [d1, d2] }
  | _ => none }
def fnEnterSkipsLeadingSpaceRow : OpenClaim := { program := "qxb6616904afmt", sum := "74bd8cda57f6d9f8e51adc50aedb42e4eadf2ae8e1d89a236ee7978ddc95aa88", func := "example.com/portcullis/portcullis/zzlaws_jsonread_b1.FnEnterSkipsLeadingSpace", spec := "fnEnterSkipsLeadingSpace", stops := ["fmt.errorf"], inPlace := ["fmt.errorf"], apart := false }
/-- NO THEOREM (fmt's text is open here; it may be false): for the released tool's asking of the row's closed facts alone. THE STATEMENT IS 'FnEnterSkipsLeadingSpaceToldSaid' (Qxb6616904aFmtCards.lean). -/
def FnEnterSkipsLeadingSpaceFormAsk : Prop := fnEnterSkipsLeadingSpaceRow.holds Tryf.pinned (OpenSpec.ofChange fnEnterSkipsLeadingSpaceSpec)

/-- ITS FALSE NEIGHBOUR: 'it returns false'. Refute it at one input. -/
def fnEnterSkipsLeadingSpaceWrong : ChangeSpec := { name := "fnEnterSkipsLeadingSpace", fn := fun _ => fun
  | [d1, d2] => { results := [.lit (.bool false)], args := [d1, d2] }
  | _ => none }
def FnEnterSkipsLeadingSpaceWrongFormAsk : Prop := fnEnterSkipsLeadingSpaceRow.holds Tryf.pinned (OpenSpec.ofChange fnEnterSkipsLeadingSpaceWrong)

/-- 'zzlaws_jsonread_b1.FnMoreCountsEmptyItems': WHATEVER THE INPUT: true; the input reads as it did. -/
def fnMoreCountsEmptyItemsSpec : ChangeSpec := { name := "fnMoreCountsEmptyItems", fn := fun _ => fun
  | [d] => { results := [.lit (.bool true)], args := [d] }
  | _ => none }
def fnMoreCountsEmptyItemsRow : OpenClaim := { program := "qxb6616904afmt", sum := "74bd8cda57f6d9f8e51adc50aedb42e4eadf2ae8e1d89a236ee7978ddc95aa88", func := "example.com/portcullis/portcullis/zzlaws_jsonread_b1.FnMoreCountsEmptyItems", spec := "fnMoreCountsEmptyItems", stops := ["fmt.errorf"], inPlace := ["fmt.errorf"], apart := false }
/-- NO THEOREM (fmt's text is open here; it may be false): for the released tool's asking of the row's closed facts alone. THE STATEMENT IS 'FnMoreCountsEmptyItemsToldSaid' (Qxb6616904aFmtCards.lean). -/
def FnMoreCountsEmptyItemsFormAsk : Prop := fnMoreCountsEmptyItemsRow.holds Tryf.pinned (OpenSpec.ofChange fnMoreCountsEmptyItemsSpec)

/-- ITS FALSE NEIGHBOUR: 'it returns false'. Refute it at one input. -/
def fnMoreCountsEmptyItemsWrong : ChangeSpec := { name := "fnMoreCountsEmptyItems", fn := fun _ => fun
  | [d] => { results := [.lit (.bool false)], args := [d] }
  | _ => none }
def FnMoreCountsEmptyItemsWrongFormAsk : Prop := fnMoreCountsEmptyItemsRow.holds Tryf.pinned (OpenSpec.ofChange fnMoreCountsEmptyItemsWrong)

/-- 'zzlaws_jsonread_b1.FnMoreClosesMirroredLevels': WHATEVER THE INPUT: true; the input reads as it did. -/
def fnMoreClosesMirroredLevelsSpec : ChangeSpec := { name := "fnMoreClosesMirroredLevels", fn := fun _ => fun
  | [d] => { results := [.lit (.bool true)], args := [d] }
  | _ => none }
def fnMoreClosesMirroredLevelsRow : OpenClaim := { program := "qxb6616904afmt", sum := "74bd8cda57f6d9f8e51adc50aedb42e4eadf2ae8e1d89a236ee7978ddc95aa88", func := "example.com/portcullis/portcullis/zzlaws_jsonread_b1.FnMoreClosesMirroredLevels", spec := "fnMoreClosesMirroredLevels", stops := ["fmt.errorf"], inPlace := ["fmt.errorf"], apart := false }
/-- NO THEOREM (fmt's text is open here; it may be false): for the released tool's asking of the row's closed facts alone. THE STATEMENT IS 'FnMoreClosesMirroredLevelsToldSaid' (Qxb6616904aFmtCards.lean). -/
def FnMoreClosesMirroredLevelsFormAsk : Prop := fnMoreClosesMirroredLevelsRow.holds Tryf.pinned (OpenSpec.ofChange fnMoreClosesMirroredLevelsSpec)

/-- ITS FALSE NEIGHBOUR: 'it returns false'. Refute it at one input. -/
def fnMoreClosesMirroredLevelsWrong : ChangeSpec := { name := "fnMoreClosesMirroredLevels", fn := fun _ => fun
  | [d] => { results := [.lit (.bool false)], args := [d] }
  | _ => none }
def FnMoreClosesMirroredLevelsWrongFormAsk : Prop := fnMoreClosesMirroredLevelsRow.holds Tryf.pinned (OpenSpec.ofChange fnMoreClosesMirroredLevelsWrong)

end Rows
end Go.Proofs.Qxb6616904aFmt
