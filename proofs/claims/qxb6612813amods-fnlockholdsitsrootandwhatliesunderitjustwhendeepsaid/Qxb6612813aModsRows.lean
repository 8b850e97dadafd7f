/-
  No cell of these rows narrows 'for every input' (looked for: loops, veiled, ifaces, maps, wideKeys, modest, calm, conditions, laid).
  DERIVED. THE GIVEN ROWS OF THIS SEAT. 2 by the template 'for every input the law returns true; each argument reads behind the call as it read before'; 0 by the template 'total and deterministic' (their statements: Qxb6612813aModsTotals.lean).
  GIVEN WITH THE SEED: the statements are not yours to turn. If you find one false, say at which input.
  Laid BY PROGRAM, IN A SANDBOX (cutbox-rows.mjs): the forced cells as the released guide's own fill.sh prints them over the translation 6552d7228e00ede6… (all of the seat's roots in one cut). By AI agents, Wed Nov 11 2026. No macro, syntax, notation, axiom, sorry.
-/
import Derived.Test.Qxb6612813aModsChecked
import GoSem.Claim
import GoSem.ClaimJoined
import GoSem.ClaimMapViews
import Derived.JoinedTies
import Derived.KernelRfl
namespace Go.Proofs.Qxb6612813aMods
/- THE CELL 'sum', in the pinned program and in every row, IS THE sha256 OF THE DUMP (.gsa) THAT Qxb6612813aModsProg.lean LOADS. Nothing in Lean hashes anything: it is a label: what it is worth is what the hold of that sum in a sandbox is worth. -/
noncomputable def Trym.pinned : Pinned := { name := "qxb6612813amods", sum := "6552d7228e00ede69aa60fc5581228308a107a769986f1347603bb5fb1e4b961", checked := Trym.checked }
namespace Rows
def none {H : Type} : Left H := { results := [], args := [] }

/-- 'zzlaws_internal_store_b1.FnLockHoldsItsRootAndWhatLiesUnderItJustWhenDeep': WHATEVER THE INPUT: true; the input reads as it did. -/
def fnLockHoldsItsRootAndWhatLiesUnderItJustWhenDeepSpec : ChangeSpec := { name := "fnLockHoldsItsRootAndWhatLiesUnderItJustWhenDeep", fn := fun _ => fun
  | [d1, d2, d3, d4, d5, d6, d7] => { results := [.lit (.bool true)], args := [d1, d2, d3, d4, d5, d6, d7] }
  | _ => none }
def fnLockHoldsItsRootAndWhatLiesUnderItJustWhenDeepRow : OpenClaim := { program := "qxb6612813amods", sum := "6552d7228e00ede69aa60fc5581228308a107a769986f1347603bb5fb1e4b961", func := "example.com/skerrybank/skerrybank/zzlaws_internal_store_b1.FnLockHoldsItsRootAndWhatLiesUnderItJustWhenDeep", spec := "fnLockHoldsItsRootAndWhatLiesUnderItJustWhenDeep", make := .lifted ["publicsums"], apart := false }
def FnLockHoldsItsRootAndWhatLiesUnderItJustWhenDeepSaid : Prop := fnLockHoldsItsRootAndWhatLiesUnderItJustWhenDeepRow.holds Trym.pinned (OpenSpec.ofChange fnLockHoldsItsRootAndWhatLiesUnderItJustWhenDeepSpec)

/-- ITS FALSE NEIGHBOUR: 'it returns false'. Refute it at one input. -/
def fnLockHoldsItsRootAndWhatLiesUnderItJustWhenDeepWrong : ChangeSpec := { name := "fnLockHoldsItsRootAndWhatLiesUnderItJustWhenDeep", fn := fun _ => fun
  | [d1, d2, d3, d4, d5, d6, d7] => { results := [.lit (.bool false)], args := [d1, d2, d3, d4, d5, d6, d7] }
  | _ => none }
def FnLockHoldsItsRootAndWhatLiesUnderItJustWhenDeepWrongFalsely : Prop := fnLockHoldsItsRootAndWhatLiesUnderItJustWhenDeepRow.holds Trym.pinned (OpenSpec.ofChange fnLockHoldsItsRootAndWhatLiesUnderItJustWhenDeepWrong)

/-- 'zzlaws_internal_store_b1.FnLockHoldsANameThatExtendsItsRootOnlyAcrossASlash': WHATEVER THE INPUT: true; the input reads as it did. -/
def fnLockHoldsANameThatExtendsItsRootOnlyAcrossASlashSpec : ChangeSpec := { name := "fnLockHoldsANameThatExtendsItsRootOnlyAcrossASlash", fn := fun _ => fun
  | [d1, d2, d3, d4, d5, d6, d7, d8] => { results := [.lit (.bool true)], args := [d1, d2, d3, d4, d5, d6, d7, d8] }
  | _ => none }
def fnLockHoldsANameThatExtendsItsRootOnlyAcrossASlashRow : OpenClaim := { program := "qxb6612813amods", sum := "6552d7228e00ede69aa60fc5581228308a107a769986f1347603bb5fb1e4b961", func := "example.com/skerrybank/skerrybank/zzlaws_internal_store_b1.FnLockHoldsANameThatExtendsItsRootOnlyAcrossASlash", spec := "fnLockHoldsANameThatExtendsItsRootOnlyAcrossASlash", make := .lifted ["publicsums"], apart := false }
def FnLockHoldsANameThatExtendsItsRootOnlyAcrossASlashSaid : Prop := fnLockHoldsANameThatExtendsItsRootOnlyAcrossASlashRow.holds Trym.pinned (OpenSpec.ofChange fnLockHoldsANameThatExtendsItsRootOnlyAcrossASlashSpec)

/-- ITS FALSE NEIGHBOUR: 'it returns false'. Refute it at one input. -/
def fnLockHoldsANameThatExtendsItsRootOnlyAcrossASlashWrong : ChangeSpec := { name := "fnLockHoldsANameThatExtendsItsRootOnlyAcrossASlash", fn := fun _ => fun
  | [d1, d2, d3, d4, d5, d6, d7, d8] => { results := [.lit (.bool false)], args := [d1, d2, d3, d4, d5, d6, d7, d8] }
  | _ => none }
def FnLockHoldsANameThatExtendsItsRootOnlyAcrossASlashWrongFalsely : Prop := fnLockHoldsANameThatExtendsItsRootOnlyAcrossASlashRow.holds Trym.pinned (OpenSpec.ofChange fnLockHoldsANameThatExtendsItsRootOnlyAcrossASlashWrong)

end Rows
end Go.Proofs.Qxb6612813aMods
