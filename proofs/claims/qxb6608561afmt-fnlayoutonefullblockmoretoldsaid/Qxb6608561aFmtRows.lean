/-
  No cell of these rows narrows 'for every input' (looked for: loops, veiled, ifaces, maps, wideKeys, modest, calm, conditions, laid).
  DERIVED. THE GIVEN ROWS OF THIS SEAT. 4 by the template 'for every input the law returns true; each argument reads behind the call as it read before'; 0 by the template 'total and deterministic' (their statements: Qxb6608561aFmtTotals.lean).
  GIVEN WITH THE SEED: the statements are not yours to turn. If you find one false, say at which input.
  Laid BY PROGRAM, IN A SANDBOX (cutbox-rows.mjs): the forced cells as the released guide's own fill.sh prints them over the translation c9b8663d1fbd4897… (all of the seat's roots in one cut). By AI agents, Wed Nov 11 2026. No macro, syntax, notation, axiom, sorry.
-/
import Derived.Test.Qxb6608561aFmtChecked
import GoSem.Claim
import GoSem.ClaimJoined
import GoSem.ClaimMapViews
import Derived.JoinedTies
import Derived.KernelRfl
namespace Go.Proofs.Qxb6608561aFmt
/- THE CELL 'sum', in the pinned program and in every row, IS THE sha256 OF THE DUMP (.gsa) THAT Qxb6608561aFmtProg.lean LOADS. Nothing in Lean hashes anything: it is a label: what it is worth is what the hold of that sum in a sandbox is worth. -/
noncomputable def Tryf.pinned : Pinned := { name := "qxb6608561afmt", sum := "c9b8663d1fbd489719547912944225b713c6e52004b8cd5774a826bd1dc8269b", checked := Tryf.checked }
namespace Rows
def none {H : Type} : Left H := { results := [], args := [] }

/-- 'zzlaws_contentinfo_b1.FnCheckEndSplitsAtAnyCutAndStopsAtTheLargestOffset': WHATEVER THE INPUT: true; the input reads as it did. -/
def fnCheckEndSplitsAtAnyCutAndStopsAtTheLargestOffsetSpec : ChangeSpec := { name := "fnCheckEndSplitsAtAnyCutAndStopsAtTheLargestOffset", fn := fun _ => fun
  | [d1, d2, d3, d4, d5, d6] => { results := [.lit (.bool true)], args := [d1, d2, d3, d4, d5, d6] }
  | _ => none }
def fnCheckEndSplitsAtAnyCutAndStopsAtTheLargestOffsetRow : OpenClaim := { program := "qxb6608561afmt", sum := "c9b8663d1fbd489719547912944225b713c6e52004b8cd5774a826bd1dc8269b", func := "example.com/outpost/outpost/zzlaws_contentinfo_b1.FnCheckEndSplitsAtAnyCutAndStopsAtTheLargestOffset", spec := "fnCheckEndSplitsAtAnyCutAndStopsAtTheLargestOffset", stops := ["fmt.Sprintf, its operands' methods called", "fmt.errorf"], inPlace := ["fmt.errorf"], apart := false }
/-- NO THEOREM (fmt's text is open here; it may be false): for the released tool's asking of the row's closed facts alone. THE STATEMENT IS 'FnCheckEndSplitsAtAnyCutAndStopsAtTheLargestOffsetToldSaid' (Qxb6608561aFmtCards.lean). -/
def FnCheckEndSplitsAtAnyCutAndStopsAtTheLargestOffsetFormAsk : Prop := fnCheckEndSplitsAtAnyCutAndStopsAtTheLargestOffsetRow.holds Tryf.pinned (OpenSpec.ofChange fnCheckEndSplitsAtAnyCutAndStopsAtTheLargestOffsetSpec)

/-- ITS FALSE NEIGHBOUR: 'it returns false'. Refute it at one input. -/
def fnCheckEndSplitsAtAnyCutAndStopsAtTheLargestOffsetWrong : ChangeSpec := { name := "fnCheckEndSplitsAtAnyCutAndStopsAtTheLargestOffset", fn := fun _ => fun
  | [d1, d2, d3, d4, d5, d6] => { results := [.lit (.bool false)], args := [d1, d2, d3, d4, d5, d6] }
  | _ => none }
def FnCheckEndSplitsAtAnyCutAndStopsAtTheLargestOffsetWrongFormAsk : Prop := fnCheckEndSplitsAtAnyCutAndStopsAtTheLargestOffsetRow.holds Tryf.pinned (OpenSpec.ofChange fnCheckEndSplitsAtAnyCutAndStopsAtTheLargestOffsetWrong)

/-- 'zzlaws_contentinfo_b1.FnCheckEndHangsOnTheEndAlone': WHATEVER THE INPUT: true; the input reads as it did. -/
def fnCheckEndHangsOnTheEndAloneSpec : ChangeSpec := { name := "fnCheckEndHangsOnTheEndAlone", fn := fun _ => fun
  | [d1, d2, d3, d4, d5, d6] => { results := [.lit (.bool true)], args := [d1, d2, d3, d4, d5, d6] }
  | _ => none }
def fnCheckEndHangsOnTheEndAloneRow : OpenClaim := { program := "qxb6608561afmt", sum := "c9b8663d1fbd489719547912944225b713c6e52004b8cd5774a826bd1dc8269b", func := "example.com/outpost/outpost/zzlaws_contentinfo_b1.FnCheckEndHangsOnTheEndAlone", spec := "fnCheckEndHangsOnTheEndAlone", stops := ["fmt.Sprintf, its operands' methods called", "fmt.errorf"], inPlace := ["fmt.errorf"], apart := false }
/-- NO THEOREM (fmt's text is open here; it may be false): for the released tool's asking of the row's closed facts alone. THE STATEMENT IS 'FnCheckEndHangsOnTheEndAloneToldSaid' (Qxb6608561aFmtCards.lean). -/
def FnCheckEndHangsOnTheEndAloneFormAsk : Prop := fnCheckEndHangsOnTheEndAloneRow.holds Tryf.pinned (OpenSpec.ofChange fnCheckEndHangsOnTheEndAloneSpec)

/-- ITS FALSE NEIGHBOUR: 'it returns false'. Refute it at one input. -/
def fnCheckEndHangsOnTheEndAloneWrong : ChangeSpec := { name := "fnCheckEndHangsOnTheEndAlone", fn := fun _ => fun
  | [d1, d2, d3, d4, d5, d6] => { results := [.lit (.bool false)], args := [d1, d2, d3, d4, d5, d6] }
  | _ => none }
def FnCheckEndHangsOnTheEndAloneWrongFormAsk : Prop := fnCheckEndHangsOnTheEndAloneRow.holds Tryf.pinned (OpenSpec.ofChange fnCheckEndHangsOnTheEndAloneWrong)

/-- 'zzlaws_contentinfo_b1.FnLayoutTilesTheSegment': WHATEVER THE INPUT: true; the input reads as it did. -/
def fnLayoutTilesTheSegmentSpec : ChangeSpec := { name := "fnLayoutTilesTheSegment", fn := fun _ => fun
  | [d1, d2] => { results := [.lit (.bool true)], args := [d1, d2] }
  | _ => none }
def fnLayoutTilesTheSegmentRow : OpenClaim := { program := "qxb6608561afmt", sum := "c9b8663d1fbd489719547912944225b713c6e52004b8cd5774a826bd1dc8269b", func := "example.com/outpost/outpost/zzlaws_contentinfo_b1.FnLayoutTilesTheSegment", spec := "fnLayoutTilesTheSegment", stops := ["fmt.Sprintf, its operands' methods called", "fmt.errorf"], inPlace := ["fmt.Sprintf"], unfollowed := true, recurses := true, apart := false }
/-- NO THEOREM (fmt's text is open here; it may be false): for the released tool's asking of the row's closed facts alone. THE STATEMENT IS 'FnLayoutTilesTheSegmentToldSaid' (Qxb6608561aFmtCards.lean). -/
def FnLayoutTilesTheSegmentFormAsk : Prop := fnLayoutTilesTheSegmentRow.holds Tryf.pinned (OpenSpec.ofChange fnLayoutTilesTheSegmentSpec)

/-- ITS FALSE NEIGHBOUR: 'it returns false'. Refute it at one input. -/
def fnLayoutTilesTheSegmentWrong : ChangeSpec := { name := "fnLayoutTilesTheSegment", fn := fun _ => fun
  | [d1, d2] => { results := [.lit (.bool false)], args := [d1, d2] }
  | _ => none }
def FnLayoutTilesTheSegmentWrongFormAsk : Prop := fnLayoutTilesTheSegmentRow.holds Tryf.pinned (OpenSpec.ofChange fnLayoutTilesTheSegmentWrong)

/-- 'zzlaws_contentinfo_b1.FnLayoutOneFullBlockMore': WHATEVER THE INPUT: true; the input reads as it did. -/
def fnLayoutOneFullBlockMoreSpec : ChangeSpec := { name := "fnLayoutOneFullBlockMore", fn := fun _ => fun
  | [d1, d2] => { results := [.lit (.bool true)], args := [d1, d2] }
  | _ => none }
def fnLayoutOneFullBlockMoreRow : OpenClaim := { program := "qxb6608561afmt", sum := "c9b8663d1fbd489719547912944225b713c6e52004b8cd5774a826bd1dc8269b", func := "example.com/outpost/outpost/zzlaws_contentinfo_b1.FnLayoutOneFullBlockMore", spec := "fnLayoutOneFullBlockMore", stops := ["fmt.Sprintf, its operands' methods called", "fmt.errorf"], inPlace := ["fmt.Sprintf"], unfollowed := true, recurses := true, apart := false }
/-- NO THEOREM (fmt's text is open here; it may be false): for the released tool's asking of the row's closed facts alone. THE STATEMENT IS 'FnLayoutOneFullBlockMoreToldSaid' (Qxb6608561aFmtCards.lean). -/
def FnLayoutOneFullBlockMoreFormAsk : Prop := fnLayoutOneFullBlockMoreRow.holds Tryf.pinned (OpenSpec.ofChange fnLayoutOneFullBlockMoreSpec)

/-- ITS FALSE NEIGHBOUR: 'it returns false'. Refute it at one input. -/
def fnLayoutOneFullBlockMoreWrong : ChangeSpec := { name := "fnLayoutOneFullBlockMore", fn := fun _ => fun
  | [d1, d2] => { results := [.lit (.bool false)], args := [d1, d2] }
  | _ => none }
def FnLayoutOneFullBlockMoreWrongFormAsk : Prop := fnLayoutOneFullBlockMoreRow.holds Tryf.pinned (OpenSpec.ofChange fnLayoutOneFullBlockMoreWrong)

end Rows
end Go.Proofs.Qxb6608561aFmt
