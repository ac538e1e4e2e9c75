/-
  No cell of these rows narrows 'for every input' (looked for: loops, veiled, ifaces, maps, wideKeys, modest, calm, conditions, laid).
  DERIVED. THE GIVEN ROWS OF THIS SEAT. 1 by the template 'for every input the law returns true; each argument reads behind the call as it read before'; 0 by the template 'total and deterministic' (their statements: Qxb6615124aTotals.lean).
  GIVEN WITH THE SEED: the statements are not yours to turn. If you find one false, say at which input.
  Laid BY PROGRAM, IN A SANDBOX (cutbox-rows.mjs): the forced cells as the released guide's own fill.sh prints them over the translation 18a580186ef0450e… (all of the seat's roots in one cut). By AI agents, Wed Nov 11 2026. No macro, syntax, notation, axiom, sorry.
-/
import Derived.Test.Qxb6615124aChecked
import GoSem.Claim
import GoSem.ClaimJoined
import GoSem.ClaimMapViews
import Derived.JoinedTies
import Derived.KernelRfl
namespace Go.Proofs.Qxb6615124a
/- THE CELL 'sum', in the pinned program and in every row, IS THE sha256 OF THE DUMP (.gsa) THAT Qxb6615124aProg.lean LOADS. Nothing in Lean hashes anything: it is a label: what it is worth is what the hold of that sum in a sandbox is worth. -/
noncomputable def Try.pinned : Pinned := { name := "qxb6615124a", sum := "18a580186ef0450e7e8b004e18403ef9eaac1caa304a81c1f2c4fd57be6576b5", checked := Try.checked }
namespace Rows
def none {H : Type} : Left H := { results := [], args := [] }

/-- 'zzlaws_pkg_engine_b1.FnUniqueIndexOnOneMoreEqualityTerm': WHATEVER THE INPUT: true; the input reads as it did. -/
def fnUniqueIndexOnOneMoreEqualityTermSpec : ChangeSpec := { name := "fnUniqueIndexOnOneMoreEqualityTerm", fn := fun _ => fun
  | [d1, d2, d3, d4, d5, d6, d7, d8] => { results := [.lit (.bool true)], args := [d1, d2, d3, d4, d5, d6, d7, d8] }
  | _ => none }
def fnUniqueIndexOnOneMoreEqualityTermRow : OpenClaim := { program := "qxb6615124a", sum := "18a580186ef0450e7e8b004e18403ef9eaac1caa304a81c1f2c4fd57be6576b5", func := "example.com/gapwise/gapwise/zzlaws_pkg_engine_b1.FnUniqueIndexOnOneMoreEqualityTerm", spec := "fnUniqueIndexOnOneMoreEqualityTerm", apart := false }
def FnUniqueIndexOnOneMoreEqualityTermSaid : Prop := fnUniqueIndexOnOneMoreEqualityTermRow.holds Try.pinned (OpenSpec.ofChange fnUniqueIndexOnOneMoreEqualityTermSpec)

/-- ITS FALSE NEIGHBOUR: 'it returns false'. Refute it at one input. -/
def fnUniqueIndexOnOneMoreEqualityTermWrong : ChangeSpec := { name := "fnUniqueIndexOnOneMoreEqualityTerm", fn := fun _ => fun
  | [d1, d2, d3, d4, d5, d6, d7, d8] => { results := [.lit (.bool false)], args := [d1, d2, d3, d4, d5, d6, d7, d8] }
  | _ => none }
def FnUniqueIndexOnOneMoreEqualityTermWrongFalsely : Prop := fnUniqueIndexOnOneMoreEqualityTermRow.holds Try.pinned (OpenSpec.ofChange fnUniqueIndexOnOneMoreEqualityTermWrong)

end Rows
end Go.Proofs.Qxb6615124a
