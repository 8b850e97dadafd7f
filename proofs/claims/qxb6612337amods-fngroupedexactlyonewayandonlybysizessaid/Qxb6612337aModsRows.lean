/-
  No cell of these rows narrows 'for every input' (looked for: loops, veiled, ifaces, maps, wideKeys, modest, calm, conditions, laid).
  DERIVED. THE GIVEN ROWS OF THIS SEAT. 1 by the template 'for every input the law returns true; each argument reads behind the call as it read before'; 0 by the template 'total and deterministic' (their statements: Qxb6612337aModsTotals.lean).
  GIVEN WITH THE SEED: the statements are not yours to turn. If you find one false, say at which input.
  Laid BY PROGRAM, IN A SANDBOX (cutbox-rows.mjs): the forced cells as the released guide's own fill.sh prints them over the translation a06da2ce5fb8623d… (all of the seat's roots in one cut). By AI agents, Wed Nov 11 2026. No macro, syntax, notation, axiom, sorry.
-/
import Derived.Test.Qxb6612337aModsChecked
import GoSem.Claim
import GoSem.ClaimJoined
import GoSem.ClaimMapViews
import Derived.JoinedTies
import Derived.KernelRfl
namespace Go.Proofs.Qxb6612337aMods
/- THE CELL 'sum', in the pinned program and in every row, IS THE sha256 OF THE DUMP (.gsa) THAT Qxb6612337aModsProg.lean LOADS. Nothing in Lean hashes anything: it is a label: what it is worth is what the hold of that sum in a sandbox is worth. -/
noncomputable def Trym.pinned : Pinned := { name := "qxb6612337amods", sum := "a06da2ce5fb8623dbe74d80727424267745b382ac53bfd15b3ae40e897c294d3", checked := Trym.checked }
namespace Rows
def none {H : Type} : Left H := { results := [], args := [] }

/-- 'zzlaws_internal_repo_b1.FnGroupedExactlyOneWayAndOnlyBySizes': WHATEVER THE INPUT: true; the input reads as it did. -/
def fnGroupedExactlyOneWayAndOnlyBySizesSpec : ChangeSpec := { name := "fnGroupedExactlyOneWayAndOnlyBySizes", fn := fun _ => fun
  | [d1, d2, d3, d4, d5, d6, d7] => { results := [.lit (.bool true)], args := [d1, d2, d3, d4, d5, d6, d7] }
  | _ => none }
def fnGroupedExactlyOneWayAndOnlyBySizesRow : OpenClaim := { program := "qxb6612337amods", sum := "a06da2ce5fb8623dbe74d80727424267745b382ac53bfd15b3ae40e897c294d3", func := "example.com/seamline/seamline/zzlaws_internal_repo_b1.FnGroupedExactlyOneWayAndOnlyBySizes", spec := "fnGroupedExactlyOneWayAndOnlyBySizes", make := .lifted ["publicsums"], apart := false }
def FnGroupedExactlyOneWayAndOnlyBySizesSaid : Prop := fnGroupedExactlyOneWayAndOnlyBySizesRow.holds Trym.pinned (OpenSpec.ofChange fnGroupedExactlyOneWayAndOnlyBySizesSpec)

/-- ITS FALSE NEIGHBOUR: 'it returns false'. Refute it at one input. -/
def fnGroupedExactlyOneWayAndOnlyBySizesWrong : ChangeSpec := { name := "fnGroupedExactlyOneWayAndOnlyBySizes", fn := fun _ => fun
  | [d1, d2, d3, d4, d5, d6, d7] => { results := [.lit (.bool false)], args := [d1, d2, d3, d4, d5, d6, d7] }
  | _ => none }
def FnGroupedExactlyOneWayAndOnlyBySizesWrongFalsely : Prop := fnGroupedExactlyOneWayAndOnlyBySizesRow.holds Trym.pinned (OpenSpec.ofChange fnGroupedExactlyOneWayAndOnlyBySizesWrong)

end Rows
end Go.Proofs.Qxb6612337aMods
