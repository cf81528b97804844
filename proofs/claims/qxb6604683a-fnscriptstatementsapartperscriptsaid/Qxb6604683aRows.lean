/-
  No cell of these rows narrows 'for every input' (looked for: loops, veiled, ifaces, maps, wideKeys, modest, calm, conditions, laid).
  DERIVED. THE GIVEN ROWS OF THIS SEAT. 4 by the template 'for every input the law returns true; each argument reads behind the call as it read before'; 0 by the template 'total and deterministic' (their statements: Qxb6604683aTotals.lean).
  GIVEN WITH THE SEED: the statements are not yours to turn. If you find one false, say at which input.
  Laid BY PROGRAM, IN A SANDBOX (cutbox-rows.mjs): the forced cells as the released guide's own fill.sh prints them over the translation cfe562029d67bc42… (all of the seat's roots in one cut). By AI agents, Wed Nov 11 2026. No macro, syntax, notation, axiom, sorry.
-/
import Derived.Test.Qxb6604683aChecked
import GoSem.Claim
import GoSem.ClaimJoined
import GoSem.ClaimMapViews
import Derived.JoinedTies
import Derived.KernelRfl
namespace Go.Proofs.Qxb6604683a
/- THE CELL 'sum', in the pinned program and in every row, IS THE sha256 OF THE DUMP (.gsa) THAT Qxb6604683aProg.lean LOADS. Nothing in Lean hashes anything: it is a label: what it is worth is what the hold of that sum in a sandbox is worth. -/
noncomputable def Try.pinned : Pinned := { name := "qxb6604683a", sum := "cfe562029d67bc428fe34bcad097eb2b6712fba819a81b87164770ee70141a82", checked := Try.checked }
namespace Rows
def none {H : Type} : Left H := { results := [], args := [] }

/-- 'zzlaws_root_b1.FnSqlValueReaderAgreesAndInjective': WHATEVER THE INPUT: true; the input reads as it did. -/
def fnSqlValueReaderAgreesAndInjectiveSpec : ChangeSpec := { name := "fnSqlValueReaderAgreesAndInjective", fn := fun _ => fun
  | [d1, d2, d3] => { results := [.lit (.bool true)], args := [d1, d2, d3] }
  | _ => none }
def fnSqlValueReaderAgreesAndInjectiveRow : OpenClaim := { program := "qxb6604683a", sum := "cfe562029d67bc428fe34bcad097eb2b6712fba819a81b87164770ee70141a82", func := "example.com/libgrant/libgrant/zzlaws_root_b1.FnSqlValueReaderAgreesAndInjective", spec := "fnSqlValueReaderAgreesAndInjective", apart := false }
def FnSqlValueReaderAgreesAndInjectiveSaid : Prop := fnSqlValueReaderAgreesAndInjectiveRow.holds Try.pinned (OpenSpec.ofChange fnSqlValueReaderAgreesAndInjectiveSpec)

/-- ITS FALSE NEIGHBOUR: 'it returns false'. Refute it at one input. -/
def fnSqlValueReaderAgreesAndInjectiveWrong : ChangeSpec := { name := "fnSqlValueReaderAgreesAndInjective", fn := fun _ => fun
  | [d1, d2, d3] => { results := [.lit (.bool false)], args := [d1, d2, d3] }
  | _ => none }
def FnSqlValueReaderAgreesAndInjectiveWrongFalsely : Prop := fnSqlValueReaderAgreesAndInjectiveRow.holds Try.pinned (OpenSpec.ofChange fnSqlValueReaderAgreesAndInjectiveWrong)

/-- 'zzlaws_root_b1.FnOrgRoleColumnsFillByName': WHATEVER THE INPUT: true; the input reads as it did. -/
def fnOrgRoleColumnsFillByNameSpec : ChangeSpec := { name := "fnOrgRoleColumnsFillByName", fn := fun _ => fun
  | [d1, d2, d3, d4, d5, d6, d7, d8, d9, d10] => { results := [.lit (.bool true)], args := [d1, d2, d3, d4, d5, d6, d7, d8, d9, d10] }
  | _ => none }
def fnOrgRoleColumnsFillByNameRow : OpenClaim := { program := "qxb6604683a", sum := "cfe562029d67bc428fe34bcad097eb2b6712fba819a81b87164770ee70141a82", func := "example.com/libgrant/libgrant/zzlaws_root_b1.FnOrgRoleColumnsFillByName", spec := "fnOrgRoleColumnsFillByName", apart := false }
def FnOrgRoleColumnsFillByNameSaid : Prop := fnOrgRoleColumnsFillByNameRow.holds Try.pinned (OpenSpec.ofChange fnOrgRoleColumnsFillByNameSpec)

/-- ITS FALSE NEIGHBOUR: 'it returns false'. Refute it at one input. -/
def fnOrgRoleColumnsFillByNameWrong : ChangeSpec := { name := "fnOrgRoleColumnsFillByName", fn := fun _ => fun
  | [d1, d2, d3, d4, d5, d6, d7, d8, d9, d10] => { results := [.lit (.bool false)], args := [d1, d2, d3, d4, d5, d6, d7, d8, d9, d10] }
  | _ => none }
def FnOrgRoleColumnsFillByNameWrongFalsely : Prop := fnOrgRoleColumnsFillByNameRow.holds Try.pinned (OpenSpec.ofChange fnOrgRoleColumnsFillByNameWrong)

/-- 'zzlaws_root_b1.FnScriptStatementsKeptInOrder': WHATEVER THE INPUT: true; the input reads as it did. -/
def fnScriptStatementsKeptInOrderSpec : ChangeSpec := { name := "fnScriptStatementsKeptInOrder", fn := fun _ => fun
  | [d] => { results := [.lit (.bool true)], args := [d] }
  | _ => none }
def fnScriptStatementsKeptInOrderRow : OpenClaim := { program := "qxb6604683a", sum := "cfe562029d67bc428fe34bcad097eb2b6712fba819a81b87164770ee70141a82", func := "example.com/libgrant/libgrant/zzlaws_root_b1.FnScriptStatementsKeptInOrder", spec := "fnScriptStatementsKeptInOrder", apart := false }
def FnScriptStatementsKeptInOrderSaid : Prop := fnScriptStatementsKeptInOrderRow.holds Try.pinned (OpenSpec.ofChange fnScriptStatementsKeptInOrderSpec)

/-- ITS FALSE NEIGHBOUR: 'it returns false'. Refute it at one input. -/
def fnScriptStatementsKeptInOrderWrong : ChangeSpec := { name := "fnScriptStatementsKeptInOrder", fn := fun _ => fun
  | [d] => { results := [.lit (.bool false)], args := [d] }
  | _ => none }
def FnScriptStatementsKeptInOrderWrongFalsely : Prop := fnScriptStatementsKeptInOrderRow.holds Try.pinned (OpenSpec.ofChange fnScriptStatementsKeptInOrderWrong)

/-- 'zzlaws_root_b1.FnScriptStatementsApartPerScript': WHATEVER THE INPUT: true; the input reads as it did. -/
def fnScriptStatementsApartPerScriptSpec : ChangeSpec := { name := "fnScriptStatementsApartPerScript", fn := fun _ => fun
  | [d1, d2] => { results := [.lit (.bool true)], args := [d1, d2] }
  | _ => none }
def fnScriptStatementsApartPerScriptRow : OpenClaim := { program := "qxb6604683a", sum := "cfe562029d67bc428fe34bcad097eb2b6712fba819a81b87164770ee70141a82", func := "example.com/libgrant/libgrant/zzlaws_root_b1.FnScriptStatementsApartPerScript", spec := "fnScriptStatementsApartPerScript", apart := false }
def FnScriptStatementsApartPerScriptSaid : Prop := fnScriptStatementsApartPerScriptRow.holds Try.pinned (OpenSpec.ofChange fnScriptStatementsApartPerScriptSpec)

/-- ITS FALSE NEIGHBOUR: 'it returns false'. Refute it at one input. -/
def fnScriptStatementsApartPerScriptWrong : ChangeSpec := { name := "fnScriptStatementsApartPerScript", fn := fun _ => fun
  | [d1, d2] => { results := [.lit (.bool false)], args := [d1, d2] }
  | _ => none }
def FnScriptStatementsApartPerScriptWrongFalsely : Prop := fnScriptStatementsApartPerScriptRow.holds Try.pinned (OpenSpec.ofChange fnScriptStatementsApartPerScriptWrong)

end Rows
end Go.Proofs.Qxb6604683a
