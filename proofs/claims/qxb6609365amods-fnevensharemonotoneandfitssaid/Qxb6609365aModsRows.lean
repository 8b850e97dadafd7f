/-
  No cell of these rows narrows 'for every input' (looked for: loops, veiled, ifaces, maps, wideKeys, modest, calm, conditions, laid).
  DERIVED. THE GIVEN ROWS OF THIS SEAT. 2 by the template 'for every input the law returns true; each argument reads behind the call as it read before'; 0 by the template 'total and deterministic' (their statements: Qxb6609365aModsTotals.lean).
  GIVEN WITH THE SEED: the statements are not yours to turn. If you find one false, say at which input.
  Laid BY PROGRAM, IN A SANDBOX (cutbox-rows.mjs): the forced cells as the released guide's own fill.sh prints them over the translation 10c5d572ea9b0234… (all of the seat's roots in one cut). By AI agents, Wed Nov 11 2026. No macro, syntax, notation, axiom, sorry.
-/
import Derived.Test.Qxb6609365aModsChecked
import GoSem.Claim
import GoSem.ClaimJoined
import GoSem.ClaimMapViews
import Derived.JoinedTies
import Derived.KernelRfl
namespace Go.Proofs.Qxb6609365aMods
/- THE CELL 'sum', in the pinned program and in every row, IS THE sha256 OF THE DUMP (.gsa) THAT Qxb6609365aModsProg.lean LOADS. Nothing in Lean hashes anything: it is a label: what it is worth is what the hold of that sum in a sandbox is worth. -/
noncomputable def Trym.pinned : Pinned := { name := "qxb6609365amods", sum := "10c5d572ea9b023430dd5e367eacd3051a486cb25c7d25a0914c386a7f98df6e", checked := Trym.checked }
namespace Rows
def none {H : Type} : Left H := { results := [], args := [] }

/-- 'zzlaws_coordinator_b1.FnEvenShareIsFloorAtLeastOne': WHATEVER THE INPUT: true; the input reads as it did. -/
def fnEvenShareIsFloorAtLeastOneSpec : ChangeSpec := { name := "fnEvenShareIsFloorAtLeastOne", fn := fun _ => fun
  | [d1, d2] => { results := [.lit (.bool true)], args := [d1, d2] }
  | _ => none }
def fnEvenShareIsFloorAtLeastOneRow : OpenClaim := { program := "qxb6609365amods", sum := "10c5d572ea9b023430dd5e367eacd3051a486cb25c7d25a0914c386a7f98df6e", func := "example.com/earmark/earmark/zzlaws_coordinator_b1.FnEvenShareIsFloorAtLeastOne", spec := "fnEvenShareIsFloorAtLeastOne", make := .lifted ["publicsums"], apart := false }
def FnEvenShareIsFloorAtLeastOneSaid : Prop := fnEvenShareIsFloorAtLeastOneRow.holds Trym.pinned (OpenSpec.ofChange fnEvenShareIsFloorAtLeastOneSpec)

/-- ITS FALSE NEIGHBOUR: 'it returns false'. Refute it at one input. -/
def fnEvenShareIsFloorAtLeastOneWrong : ChangeSpec := { name := "fnEvenShareIsFloorAtLeastOne", fn := fun _ => fun
  | [d1, d2] => { results := [.lit (.bool false)], args := [d1, d2] }
  | _ => none }
def FnEvenShareIsFloorAtLeastOneWrongFalsely : Prop := fnEvenShareIsFloorAtLeastOneRow.holds Trym.pinned (OpenSpec.ofChange fnEvenShareIsFloorAtLeastOneWrong)

/-- 'zzlaws_coordinator_b1.FnEvenShareMonotoneAndFits': WHATEVER THE INPUT: true; the input reads as it did. -/
def fnEvenShareMonotoneAndFitsSpec : ChangeSpec := { name := "fnEvenShareMonotoneAndFits", fn := fun _ => fun
  | [d1, d2] => { results := [.lit (.bool true)], args := [d1, d2] }
  | _ => none }
def fnEvenShareMonotoneAndFitsRow : OpenClaim := { program := "qxb6609365amods", sum := "10c5d572ea9b023430dd5e367eacd3051a486cb25c7d25a0914c386a7f98df6e", func := "example.com/earmark/earmark/zzlaws_coordinator_b1.FnEvenShareMonotoneAndFits", spec := "fnEvenShareMonotoneAndFits", make := .lifted ["publicsums"], apart := false }
def FnEvenShareMonotoneAndFitsSaid : Prop := fnEvenShareMonotoneAndFitsRow.holds Trym.pinned (OpenSpec.ofChange fnEvenShareMonotoneAndFitsSpec)

/-- ITS FALSE NEIGHBOUR: 'it returns false'. Refute it at one input. -/
def fnEvenShareMonotoneAndFitsWrong : ChangeSpec := { name := "fnEvenShareMonotoneAndFits", fn := fun _ => fun
  | [d1, d2] => { results := [.lit (.bool false)], args := [d1, d2] }
  | _ => none }
def FnEvenShareMonotoneAndFitsWrongFalsely : Prop := fnEvenShareMonotoneAndFitsRow.holds Trym.pinned (OpenSpec.ofChange fnEvenShareMonotoneAndFitsWrong)

end Rows
end Go.Proofs.Qxb6609365aMods
