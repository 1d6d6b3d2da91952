/-
  DERIVED. GIVEN WITH THE SEED: THE CARDS: each row of Qxb6616904aFmtRows.lean that lists a variable, with what it lists TIED to the program's text (the seventh form; the later family's looks); each row that meets fmt, with fmt's text TOLD by the authors' own Lean function (tested against real Go, not proved from fmt's source: count such statements apart). THE CARD IS WHAT COUNTS. Prove the row's statement (the work); the ties are given (Qxb6616904aFmtTie.lean); close each card by the builder's one call (the guide's Derived/Test/ToyasCard.lean, 'card_holds'). Laid BY PROGRAM, IN A SANDBOX (cutbox-door.mjs). By AI agents, Wed Nov 11 2026. No macro, syntax, notation, axiom, sorry.
-/
import Derived.Test.Qxb6616904aFmtRows
import GoSem.ClaimSeven
namespace Go.Proofs.Qxb6616904aFmt
namespace Rows

/-- THE TOLD CARD OF 'zzlaws_jsonread_b1.FnAtUnmovedByReads'. -/
def fnAtUnmovedByReadsCard : Claim7 := { stood := { row := fnAtUnmovedByReadsRow, standIns := [], harness := (true, "0e8eb5bf3e410e3021b5420b9f7d3d067f107227ec900c64a5d4ac3bed1f812b"), looks := false }, told := true, goes := false }
def FnAtUnmovedByReadsToldSaid : Prop := Claim7.holds Tryf.pinned (.plain (OpenSpec.ofChange fnAtUnmovedByReadsSpec)) fnAtUnmovedByReadsCard
/-- ITS FALSE NEIGHBOUR. Refute it at one input. -/
def FnAtUnmovedByReadsToldWrongFalsely : Prop := Claim7.holds Tryf.pinned (.plain (OpenSpec.ofChange fnAtUnmovedByReadsWrong)) fnAtUnmovedByReadsCard

/-- THE TOLD CARD OF 'zzlaws_jsonread_b1.FnEnterNestsLeadingOpeners'. -/
def fnEnterNestsLeadingOpenersCard : Claim7 := { stood := { row := fnEnterNestsLeadingOpenersRow, standIns := [], harness := (true, "0e8eb5bf3e410e3021b5420b9f7d3d067f107227ec900c64a5d4ac3bed1f812b"), looks := false }, told := true, goes := false }
def FnEnterNestsLeadingOpenersToldSaid : Prop := Claim7.holds Tryf.pinned (.plain (OpenSpec.ofChange fnEnterNestsLeadingOpenersSpec)) fnEnterNestsLeadingOpenersCard
/-- ITS FALSE NEIGHBOUR. Refute it at one input. -/
def FnEnterNestsLeadingOpenersToldWrongFalsely : Prop := Claim7.holds Tryf.pinned (.plain (OpenSpec.ofChange fnEnterNestsLeadingOpenersWrong)) fnEnterNestsLeadingOpenersCard

/-- THE TOLD CARD OF 'zzlaws_jsonread_b1.FnEnterSkipsLeadingSpace'. -/
def fnEnterSkipsLeadingSpaceCard : Claim7 := { stood := { row := fnEnterSkipsLeadingSpaceRow, standIns := [], harness := (true, "0e8eb5bf3e410e3021b5420b9f7d3d067f107227ec900c64a5d4ac3bed1f812b"), looks := false }, told := true, goes := false }
def FnEnterSkipsLeadingSpaceToldSaid : Prop := Claim7.holds Tryf.pinned (.plain (OpenSpec.ofChange fnEnterSkipsLeadingSpaceSpec)) fnEnterSkipsLeadingSpaceCard
/-- ITS FALSE NEIGHBOUR. Refute it at one input. -/
def FnEnterSkipsLeadingSpaceToldWrongFalsely : Prop := Claim7.holds Tryf.pinned (.plain (OpenSpec.ofChange fnEnterSkipsLeadingSpaceWrong)) fnEnterSkipsLeadingSpaceCard

/-- THE TOLD CARD OF 'zzlaws_jsonread_b1.FnMoreCountsEmptyItems'. -/
def fnMoreCountsEmptyItemsCard : Claim7 := { stood := { row := fnMoreCountsEmptyItemsRow, standIns := [], harness := (true, "0e8eb5bf3e410e3021b5420b9f7d3d067f107227ec900c64a5d4ac3bed1f812b"), looks := false }, told := true, goes := false }
def FnMoreCountsEmptyItemsToldSaid : Prop := Claim7.holds Tryf.pinned (.plain (OpenSpec.ofChange fnMoreCountsEmptyItemsSpec)) fnMoreCountsEmptyItemsCard
/-- ITS FALSE NEIGHBOUR. Refute it at one input. -/
def FnMoreCountsEmptyItemsToldWrongFalsely : Prop := Claim7.holds Tryf.pinned (.plain (OpenSpec.ofChange fnMoreCountsEmptyItemsWrong)) fnMoreCountsEmptyItemsCard

/-- THE TOLD CARD OF 'zzlaws_jsonread_b1.FnMoreClosesMirroredLevels'. -/
def fnMoreClosesMirroredLevelsCard : Claim7 := { stood := { row := fnMoreClosesMirroredLevelsRow, standIns := [], harness := (true, "0e8eb5bf3e410e3021b5420b9f7d3d067f107227ec900c64a5d4ac3bed1f812b"), looks := false }, told := true, goes := false }
def FnMoreClosesMirroredLevelsToldSaid : Prop := Claim7.holds Tryf.pinned (.plain (OpenSpec.ofChange fnMoreClosesMirroredLevelsSpec)) fnMoreClosesMirroredLevelsCard
/-- ITS FALSE NEIGHBOUR. Refute it at one input. -/
def FnMoreClosesMirroredLevelsToldWrongFalsely : Prop := Claim7.holds Tryf.pinned (.plain (OpenSpec.ofChange fnMoreClosesMirroredLevelsWrong)) fnMoreClosesMirroredLevelsCard
end Rows
end Go.Proofs.Qxb6616904aFmt
