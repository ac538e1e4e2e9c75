/-
  No cell of these rows narrows 'for every input' (looked for: loops, veiled, ifaces, maps, wideKeys, modest, calm, conditions, laid).
  DERIVED. THE GIVEN ROWS OF THIS SEAT. 1 by the template 'for every input the law returns true; each argument reads behind the call as it read before'; 0 by the template 'total and deterministic' (their statements: Qxb6615662aTotals.lean).
  GIVEN WITH THE SEED: the statements are not yours to turn. If you find one false, say at which input.
  Laid BY PROGRAM, IN A SANDBOX (cutbox-rows.mjs): the forced cells as the released guide's own fill.sh prints them over the translation 5bb326a54a05e731… (all of the seat's roots in one cut). By AI agents, Wed Nov 11 2026. No macro, syntax, notation, axiom, sorry.
-/
import Derived.Test.Qxb6615662aChecked
import GoSem.Claim
import GoSem.ClaimJoined
import GoSem.ClaimMapViews
import Derived.JoinedTies
import Derived.KernelRfl
namespace Go.Proofs.Qxb6615662a
/- THE CELL 'sum', in the pinned program and in every row, IS THE sha256 OF THE DUMP (.gsa) THAT Qxb6615662aProg.lean LOADS. Nothing in Lean hashes anything: it is a label: what it is worth is what the hold of that sum in a sandbox is worth. -/
noncomputable def Try.pinned : Pinned := { name := "qxb6615662a", sum := "5bb326a54a05e7319b09bcb99cddafd9715ab76250a3ab09d83d841c0234633e", checked := Try.checked }
namespace Rows
def none {H : Type} : Left H := { results := [], args := [] }

/-- 'zzlaws_root_b1.FnRefusalErrorTextsTellRefusalsApart': WHATEVER THE INPUT: true; the input reads as it did. -/
def fnRefusalErrorTextsTellRefusalsApartSpec : ChangeSpec := { name := "fnRefusalErrorTextsTellRefusalsApart", fn := fun _ => fun
  | [d1, d2, d3, d4] => { results := [.lit (.bool true)], args := [d1, d2, d3, d4] }
  | _ => none }
def fnRefusalErrorTextsTellRefusalsApartRow : OpenClaim := { program := "qxb6615662a", sum := "5bb326a54a05e7319b09bcb99cddafd9715ab76250a3ab09d83d841c0234633e", func := "example.com/exact-claims/exact-claims/zzlaws_root_b1.FnRefusalErrorTextsTellRefusalsApart", spec := "fnRefusalErrorTextsTellRefusalsApart", apart := false }
def FnRefusalErrorTextsTellRefusalsApartSaid : Prop := fnRefusalErrorTextsTellRefusalsApartRow.holds Try.pinned (OpenSpec.ofChange fnRefusalErrorTextsTellRefusalsApartSpec)

/-- ITS FALSE NEIGHBOUR: 'it returns false'. Refute it at one input. -/
def fnRefusalErrorTextsTellRefusalsApartWrong : ChangeSpec := { name := "fnRefusalErrorTextsTellRefusalsApart", fn := fun _ => fun
  | [d1, d2, d3, d4] => { results := [.lit (.bool false)], args := [d1, d2, d3, d4] }
  | _ => none }
def FnRefusalErrorTextsTellRefusalsApartWrongFalsely : Prop := fnRefusalErrorTextsTellRefusalsApartRow.holds Try.pinned (OpenSpec.ofChange fnRefusalErrorTextsTellRefusalsApartWrong)

end Rows
end Go.Proofs.Qxb6615662a
