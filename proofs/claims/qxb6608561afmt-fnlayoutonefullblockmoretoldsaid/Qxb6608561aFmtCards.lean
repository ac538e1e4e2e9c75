/-
  DERIVED. GIVEN WITH THE SEED: THE CARDS: each row of Qxb6608561aFmtRows.lean that lists a variable, with what it lists TIED to the program's text (the seventh form; the later family's looks); each row that meets fmt, with fmt's text TOLD by the authors' own Lean function (tested against real Go, not proved from fmt's source: count such statements apart). THE CARD IS WHAT COUNTS. Prove the row's statement (the work); the ties are given (Qxb6608561aFmtTie.lean); close each card by the builder's one call (the guide's Derived/Test/ToyasCard.lean, 'card_holds'). Laid BY PROGRAM, IN A SANDBOX (cutbox-door.mjs). By AI agents, Wed Nov 11 2026. No macro, syntax, notation, axiom, sorry.
-/
import Derived.Test.Qxb6608561aFmtRows
import GoSem.ClaimSeven
namespace Go.Proofs.Qxb6608561aFmt
namespace Rows

/-- THE TOLD CARD OF 'zzlaws_contentinfo_b1.FnCheckEndSplitsAtAnyCutAndStopsAtTheLargestOffset'. -/
def fnCheckEndSplitsAtAnyCutAndStopsAtTheLargestOffsetCard : Claim7 := { stood := { row := fnCheckEndSplitsAtAnyCutAndStopsAtTheLargestOffsetRow, standIns := [], harness := (true, "b21d03adf7f211a3dd611cc9b174d6ed3c0d26aa51d8cb044f7e8898561512af"), looks := false }, told := true, goes := false }
def FnCheckEndSplitsAtAnyCutAndStopsAtTheLargestOffsetToldSaid : Prop := Claim7.holds Tryf.pinned (.plain (OpenSpec.ofChange fnCheckEndSplitsAtAnyCutAndStopsAtTheLargestOffsetSpec)) fnCheckEndSplitsAtAnyCutAndStopsAtTheLargestOffsetCard
/-- ITS FALSE NEIGHBOUR. Refute it at one input. -/
def FnCheckEndSplitsAtAnyCutAndStopsAtTheLargestOffsetToldWrongFalsely : Prop := Claim7.holds Tryf.pinned (.plain (OpenSpec.ofChange fnCheckEndSplitsAtAnyCutAndStopsAtTheLargestOffsetWrong)) fnCheckEndSplitsAtAnyCutAndStopsAtTheLargestOffsetCard

/-- THE TOLD CARD OF 'zzlaws_contentinfo_b1.FnCheckEndHangsOnTheEndAlone'. -/
def fnCheckEndHangsOnTheEndAloneCard : Claim7 := { stood := { row := fnCheckEndHangsOnTheEndAloneRow, standIns := [], harness := (true, "b21d03adf7f211a3dd611cc9b174d6ed3c0d26aa51d8cb044f7e8898561512af"), looks := false }, told := true, goes := false }
def FnCheckEndHangsOnTheEndAloneToldSaid : Prop := Claim7.holds Tryf.pinned (.plain (OpenSpec.ofChange fnCheckEndHangsOnTheEndAloneSpec)) fnCheckEndHangsOnTheEndAloneCard
/-- ITS FALSE NEIGHBOUR. Refute it at one input. -/
def FnCheckEndHangsOnTheEndAloneToldWrongFalsely : Prop := Claim7.holds Tryf.pinned (.plain (OpenSpec.ofChange fnCheckEndHangsOnTheEndAloneWrong)) fnCheckEndHangsOnTheEndAloneCard

/-- THE TOLD CARD OF 'zzlaws_contentinfo_b1.FnLayoutTilesTheSegment'. -/
def fnLayoutTilesTheSegmentCard : Claim7 := { stood := { row := fnLayoutTilesTheSegmentRow, standIns := [], harness := (true, "b21d03adf7f211a3dd611cc9b174d6ed3c0d26aa51d8cb044f7e8898561512af"), looks := false }, told := true, goes := false }
def FnLayoutTilesTheSegmentToldSaid : Prop := Claim7.holds Tryf.pinned (.plain (OpenSpec.ofChange fnLayoutTilesTheSegmentSpec)) fnLayoutTilesTheSegmentCard
/-- ITS FALSE NEIGHBOUR. Refute it at one input. -/
def FnLayoutTilesTheSegmentToldWrongFalsely : Prop := Claim7.holds Tryf.pinned (.plain (OpenSpec.ofChange fnLayoutTilesTheSegmentWrong)) fnLayoutTilesTheSegmentCard

/-- THE TOLD CARD OF 'zzlaws_contentinfo_b1.FnLayoutOneFullBlockMore'. -/
def fnLayoutOneFullBlockMoreCard : Claim7 := { stood := { row := fnLayoutOneFullBlockMoreRow, standIns := [], harness := (true, "b21d03adf7f211a3dd611cc9b174d6ed3c0d26aa51d8cb044f7e8898561512af"), looks := false }, told := true, goes := false }
def FnLayoutOneFullBlockMoreToldSaid : Prop := Claim7.holds Tryf.pinned (.plain (OpenSpec.ofChange fnLayoutOneFullBlockMoreSpec)) fnLayoutOneFullBlockMoreCard
/-- ITS FALSE NEIGHBOUR. Refute it at one input. -/
def FnLayoutOneFullBlockMoreToldWrongFalsely : Prop := Claim7.holds Tryf.pinned (.plain (OpenSpec.ofChange fnLayoutOneFullBlockMoreWrong)) fnLayoutOneFullBlockMoreCard
end Rows
end Go.Proofs.Qxb6608561aFmt
