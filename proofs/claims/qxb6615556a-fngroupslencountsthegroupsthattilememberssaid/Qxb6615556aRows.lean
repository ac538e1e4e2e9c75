/-
  No cell of these rows narrows 'for every input' (looked for: loops, veiled, ifaces, maps, wideKeys, modest, calm, conditions, laid).
  DERIVED. THE GIVEN ROWS OF THIS SEAT. 2 by the template 'for every input the law returns true; each argument reads behind the call as it read before'; 0 by the template 'total and deterministic' (their statements: Qxb6615556aTotals.lean).
  GIVEN WITH THE SEED: the statements are not yours to turn. If you find one false, say at which input.
  Laid BY PROGRAM, IN A SANDBOX (cutbox-rows.mjs): the forced cells as the released guide's own fill.sh prints them over the translation 920e7e8ad27e84a2… (all of the seat's roots in one cut). By AI agents, Wed Nov 11 2026. No macro, syntax, notation, axiom, sorry.
-/
import Derived.Test.Qxb6615556aChecked
import GoSem.Claim
import GoSem.ClaimJoined
import GoSem.ClaimMapViews
import Derived.JoinedTies
import Derived.KernelRfl
namespace Go.Proofs.Qxb6615556a
/- THE CELL 'sum', in the pinned program and in every row, IS THE sha256 OF THE DUMP (.gsa) THAT Qxb6615556aProg.lean LOADS. Nothing in Lean hashes anything: it is a label: what it is worth is what the hold of that sum in a sandbox is worth. -/
noncomputable def Try.pinned : Pinned := { name := "qxb6615556a", sum := "920e7e8ad27e84a24b196dc920109cb2e60f81cc1d19ca4b7c262f0979f95515", checked := Try.checked }
namespace Rows
def none {H : Type} : Left H := { results := [], args := [] }

/-- 'zzlaws_listappend_b1.FnByKindThenHeadTransitive': WHATEVER THE INPUT: true; the input reads as it did. -/
def fnByKindThenHeadTransitiveSpec : ChangeSpec := { name := "fnByKindThenHeadTransitive", fn := fun _ => fun
  | [d1, d2, d3, d4, d5, d6, d7, d8, d9, d10, d11, d12] => { results := [.lit (.bool true)], args := [d1, d2, d3, d4, d5, d6, d7, d8, d9, d10, d11, d12] }
  | _ => none }
def fnByKindThenHeadTransitiveRow : OpenClaim := { program := "qxb6615556a", sum := "920e7e8ad27e84a24b196dc920109cb2e60f81cc1d19ca4b7c262f0979f95515", func := "example.com/faultline/faultline/zzlaws_listappend_b1.FnByKindThenHeadTransitive", spec := "fnByKindThenHeadTransitive", apart := false }
def FnByKindThenHeadTransitiveSaid : Prop := fnByKindThenHeadTransitiveRow.holds Try.pinned (OpenSpec.ofChange fnByKindThenHeadTransitiveSpec)

/-- ITS FALSE NEIGHBOUR: 'it returns false'. Refute it at one input. -/
def fnByKindThenHeadTransitiveWrong : ChangeSpec := { name := "fnByKindThenHeadTransitive", fn := fun _ => fun
  | [d1, d2, d3, d4, d5, d6, d7, d8, d9, d10, d11, d12] => { results := [.lit (.bool false)], args := [d1, d2, d3, d4, d5, d6, d7, d8, d9, d10, d11, d12] }
  | _ => none }
def FnByKindThenHeadTransitiveWrongFalsely : Prop := fnByKindThenHeadTransitiveRow.holds Try.pinned (OpenSpec.ofChange fnByKindThenHeadTransitiveWrong)

/-- 'zzlaws_listappend_b1.FnGroupsLenCountsTheGroupsThatTileMembers': WHATEVER THE INPUT: true; the input reads as it did. -/
def fnGroupsLenCountsTheGroupsThatTileMembersSpec : ChangeSpec := { name := "fnGroupsLenCountsTheGroupsThatTileMembers", fn := fun _ => fun
  | [d1, d2, d3] => { results := [.lit (.bool true)], args := [d1, d2, d3] }
  | _ => none }
def fnGroupsLenCountsTheGroupsThatTileMembersRow : OpenClaim := { program := "qxb6615556a", sum := "920e7e8ad27e84a24b196dc920109cb2e60f81cc1d19ca4b7c262f0979f95515", func := "example.com/faultline/faultline/zzlaws_listappend_b1.FnGroupsLenCountsTheGroupsThatTileMembers", spec := "fnGroupsLenCountsTheGroupsThatTileMembers", apart := false }
def FnGroupsLenCountsTheGroupsThatTileMembersSaid : Prop := fnGroupsLenCountsTheGroupsThatTileMembersRow.holds Try.pinned (OpenSpec.ofChange fnGroupsLenCountsTheGroupsThatTileMembersSpec)

/-- ITS FALSE NEIGHBOUR: 'it returns false'. Refute it at one input. -/
def fnGroupsLenCountsTheGroupsThatTileMembersWrong : ChangeSpec := { name := "fnGroupsLenCountsTheGroupsThatTileMembers", fn := fun _ => fun
  | [d1, d2, d3] => { results := [.lit (.bool false)], args := [d1, d2, d3] }
  | _ => none }
def FnGroupsLenCountsTheGroupsThatTileMembersWrongFalsely : Prop := fnGroupsLenCountsTheGroupsThatTileMembersRow.holds Try.pinned (OpenSpec.ofChange fnGroupsLenCountsTheGroupsThatTileMembersWrong)

end Rows
end Go.Proofs.Qxb6615556a
