/-
  No cell of these rows narrows 'for every input' (looked for: loops, veiled, ifaces, maps, wideKeys, modest, calm, conditions, laid).
  DERIVED. THE GIVEN ROWS OF THIS SEAT. 2 by the template 'for every input the law returns true; each argument reads behind the call as it read before'; 0 by the template 'total and deterministic' (their statements: Qxb6605229aModsTotals.lean).
  GIVEN WITH THE SEED: the statements are not yours to turn. If you find one false, say at which input.
  Laid BY PROGRAM, IN A SANDBOX (cutbox-rows.mjs): the forced cells as the released guide's own fill.sh prints them over the translation e8bf19eb2f0434ba… (all of the seat's roots in one cut). By AI agents, Wed Nov 11 2026. No macro, syntax, notation, axiom, sorry.
-/
import Derived.Test.Qxb6605229aModsChecked
import GoSem.Claim
import GoSem.ClaimJoined
import GoSem.ClaimMapViews
import Derived.JoinedTies
import Derived.KernelRfl
namespace Go.Proofs.Qxb6605229aMods
/- THE CELL 'sum', in the pinned program and in every row, IS THE sha256 OF THE DUMP (.gsa) THAT Qxb6605229aModsProg.lean LOADS. Nothing in Lean hashes anything: it is a label: what it is worth is what the hold of that sum in a sandbox is worth. -/
noncomputable def Trym.pinned : Pinned := { name := "qxb6605229amods", sum := "e8bf19eb2f0434ba59d8b0cb78cba53ba4adb45d97e54ddd5de8ab8fc3c9be83", checked := Trym.checked }
namespace Rows
def none {H : Type} : Left H := { results := [], args := [] }

/-- 'zzlaws_admin_b1.FnAskedIsRequestOverDefaults': WHATEVER THE INPUT: true; the input reads as it did. -/
def fnAskedIsRequestOverDefaultsSpec : ChangeSpec := { name := "fnAskedIsRequestOverDefaults", fn := fun _ => fun
  | [d1, d2, d3, d4] => { results := [.lit (.bool true)], args := [d1, d2, d3, d4] }
  | _ => none }
def fnAskedIsRequestOverDefaultsRow : OpenClaim := { program := "qxb6605229amods", sum := "e8bf19eb2f0434ba59d8b0cb78cba53ba4adb45d97e54ddd5de8ab8fc3c9be83", func := "example.com/epochline/epochline/zzlaws_admin_b1.FnAskedIsRequestOverDefaults", spec := "fnAskedIsRequestOverDefaults", make := .lifted ["publicsums"], apart := false }
def FnAskedIsRequestOverDefaultsSaid : Prop := fnAskedIsRequestOverDefaultsRow.holds Trym.pinned (OpenSpec.ofChange fnAskedIsRequestOverDefaultsSpec)

/-- ITS FALSE NEIGHBOUR: 'it returns false'. Refute it at one input. -/
def fnAskedIsRequestOverDefaultsWrong : ChangeSpec := { name := "fnAskedIsRequestOverDefaults", fn := fun _ => fun
  | [d1, d2, d3, d4] => { results := [.lit (.bool false)], args := [d1, d2, d3, d4] }
  | _ => none }
def FnAskedIsRequestOverDefaultsWrongFalsely : Prop := fnAskedIsRequestOverDefaultsRow.holds Trym.pinned (OpenSpec.ofChange fnAskedIsRequestOverDefaultsWrong)

/-- 'zzlaws_admin_b1.FnAskedAnswerReadsBack': WHATEVER THE INPUT: true; the input reads as it did. -/
def fnAskedAnswerReadsBackSpec : ChangeSpec := { name := "fnAskedAnswerReadsBack", fn := fun _ => fun
  | [d1, d2, d3, d4] => { results := [.lit (.bool true)], args := [d1, d2, d3, d4] }
  | _ => none }
def fnAskedAnswerReadsBackRow : OpenClaim := { program := "qxb6605229amods", sum := "e8bf19eb2f0434ba59d8b0cb78cba53ba4adb45d97e54ddd5de8ab8fc3c9be83", func := "example.com/epochline/epochline/zzlaws_admin_b1.FnAskedAnswerReadsBack", spec := "fnAskedAnswerReadsBack", make := .lifted ["publicsums"], apart := false }
def FnAskedAnswerReadsBackSaid : Prop := fnAskedAnswerReadsBackRow.holds Trym.pinned (OpenSpec.ofChange fnAskedAnswerReadsBackSpec)

/-- ITS FALSE NEIGHBOUR: 'it returns false'. Refute it at one input. -/
def fnAskedAnswerReadsBackWrong : ChangeSpec := { name := "fnAskedAnswerReadsBack", fn := fun _ => fun
  | [d1, d2, d3, d4] => { results := [.lit (.bool false)], args := [d1, d2, d3, d4] }
  | _ => none }
def FnAskedAnswerReadsBackWrongFalsely : Prop := fnAskedAnswerReadsBackRow.holds Trym.pinned (OpenSpec.ofChange fnAskedAnswerReadsBackWrong)

end Rows
end Go.Proofs.Qxb6605229aMods
