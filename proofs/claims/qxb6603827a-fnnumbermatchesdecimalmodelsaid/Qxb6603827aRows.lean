/-
  No cell of these rows narrows 'for every input' (looked for: loops, veiled, ifaces, maps, wideKeys, modest, calm, conditions, laid).
  DERIVED. THE GIVEN ROWS OF THIS SEAT. 5 by the template 'for every input the law returns true; each argument reads behind the call as it read before'; 0 by the template 'total and deterministic' (their statements: Qxb6603827aTotals.lean).
  GIVEN WITH THE SEED: the statements are not yours to turn. If you find one false, say at which input.
  Laid BY PROGRAM, IN A SANDBOX (cutbox-rows.mjs): the forced cells as the released guide's own fill.sh prints them over the translation 5ce02f1cac946074… (all of the seat's roots in one cut). By AI agents, Wed Nov 11 2026. No macro, syntax, notation, axiom, sorry.
-/
import Derived.Test.Qxb6603827aChecked
import GoSem.Claim
import GoSem.ClaimJoined
import GoSem.ClaimMapViews
import Derived.JoinedTies
import Derived.KernelRfl
namespace Go.Proofs.Qxb6603827a
/- THE CELL 'sum', in the pinned program and in every row, IS THE sha256 OF THE DUMP (.gsa) THAT Qxb6603827aProg.lean LOADS. Nothing in Lean hashes anything: it is a label: what it is worth is what the hold of that sum in a sandbox is worth. -/
noncomputable def Try.pinned : Pinned := { name := "qxb6603827a", sum := "5ce02f1cac946074a3fc012e908d1d3f83b372eb4bb730c11277a9edb8126f31", checked := Try.checked }
namespace Rows
def none {H : Type} : Left H := { results := [], args := [] }

/-- 'zzlaws_pkg_peerjson_b1.FnNumberMatchesDecimalModel': WHATEVER THE INPUT: true; the input reads as it did. -/
def fnNumberMatchesDecimalModelSpec : ChangeSpec := { name := "fnNumberMatchesDecimalModel", fn := fun _ => fun
  | [d1, d2, d3] => { results := [.lit (.bool true)], args := [d1, d2, d3] }
  | _ => none }
def fnNumberMatchesDecimalModelRow : OpenClaim := { program := "qxb6603827a", sum := "5ce02f1cac946074a3fc012e908d1d3f83b372eb4bb730c11277a9edb8126f31", func := "example.com/ambit/ambit/zzlaws_pkg_peerjson_b1.FnNumberMatchesDecimalModel", spec := "fnNumberMatchesDecimalModel", apart := false }
def FnNumberMatchesDecimalModelSaid : Prop := fnNumberMatchesDecimalModelRow.holds Try.pinned (OpenSpec.ofChange fnNumberMatchesDecimalModelSpec)

/-- ITS FALSE NEIGHBOUR: 'it returns false'. Refute it at one input. -/
def fnNumberMatchesDecimalModelWrong : ChangeSpec := { name := "fnNumberMatchesDecimalModel", fn := fun _ => fun
  | [d1, d2, d3] => { results := [.lit (.bool false)], args := [d1, d2, d3] }
  | _ => none }
def FnNumberMatchesDecimalModelWrongFalsely : Prop := fnNumberMatchesDecimalModelRow.holds Try.pinned (OpenSpec.ofChange fnNumberMatchesDecimalModelWrong)

/-- 'zzlaws_pkg_peerjson_b1.FnNumberReadsItsDecimal': WHATEVER THE INPUT: true; the input reads as it did. -/
def fnNumberReadsItsDecimalSpec : ChangeSpec := { name := "fnNumberReadsItsDecimal", fn := fun _ => fun
  | [d1, d2, d3] => { results := [.lit (.bool true)], args := [d1, d2, d3] }
  | _ => none }
def fnNumberReadsItsDecimalRow : OpenClaim := { program := "qxb6603827a", sum := "5ce02f1cac946074a3fc012e908d1d3f83b372eb4bb730c11277a9edb8126f31", func := "example.com/ambit/ambit/zzlaws_pkg_peerjson_b1.FnNumberReadsItsDecimal", spec := "fnNumberReadsItsDecimal", apart := false }
def FnNumberReadsItsDecimalSaid : Prop := fnNumberReadsItsDecimalRow.holds Try.pinned (OpenSpec.ofChange fnNumberReadsItsDecimalSpec)

/-- ITS FALSE NEIGHBOUR: 'it returns false'. Refute it at one input. -/
def fnNumberReadsItsDecimalWrong : ChangeSpec := { name := "fnNumberReadsItsDecimal", fn := fun _ => fun
  | [d1, d2, d3] => { results := [.lit (.bool false)], args := [d1, d2, d3] }
  | _ => none }
def FnNumberReadsItsDecimalWrongFalsely : Prop := fnNumberReadsItsDecimalRow.holds Try.pinned (OpenSpec.ofChange fnNumberReadsItsDecimalWrong)

/-- 'zzlaws_pkg_peerjson_b1.FnBoolsReadBackInOrder': WHATEVER THE INPUT: true; the input reads as it did. -/
def fnBoolsReadBackInOrderSpec : ChangeSpec := { name := "fnBoolsReadBackInOrder", fn := fun _ => fun
  | [d] => { results := [.lit (.bool true)], args := [d] }
  | _ => none }
def fnBoolsReadBackInOrderRow : OpenClaim := { program := "qxb6603827a", sum := "5ce02f1cac946074a3fc012e908d1d3f83b372eb4bb730c11277a9edb8126f31", func := "example.com/ambit/ambit/zzlaws_pkg_peerjson_b1.FnBoolsReadBackInOrder", spec := "fnBoolsReadBackInOrder", apart := false }
def FnBoolsReadBackInOrderSaid : Prop := fnBoolsReadBackInOrderRow.holds Try.pinned (OpenSpec.ofChange fnBoolsReadBackInOrderSpec)

/-- ITS FALSE NEIGHBOUR: 'it returns false'. Refute it at one input. -/
def fnBoolsReadBackInOrderWrong : ChangeSpec := { name := "fnBoolsReadBackInOrder", fn := fun _ => fun
  | [d] => { results := [.lit (.bool false)], args := [d] }
  | _ => none }
def FnBoolsReadBackInOrderWrongFalsely : Prop := fnBoolsReadBackInOrderRow.holds Try.pinned (OpenSpec.ofChange fnBoolsReadBackInOrderWrong)

/-- 'zzlaws_pkg_peerjson_b1.FnSignedMatchesSignExtensionModel': WHATEVER THE INPUT: true; the input reads as it did. -/
def fnSignedMatchesSignExtensionModelSpec : ChangeSpec := { name := "fnSignedMatchesSignExtensionModel", fn := fun _ => fun
  | [d1, d2, d3, d4] => { results := [.lit (.bool true)], args := [d1, d2, d3, d4] }
  | _ => none }
def fnSignedMatchesSignExtensionModelRow : OpenClaim := { program := "qxb6603827a", sum := "5ce02f1cac946074a3fc012e908d1d3f83b372eb4bb730c11277a9edb8126f31", func := "example.com/ambit/ambit/zzlaws_pkg_peerjson_b1.FnSignedMatchesSignExtensionModel", spec := "fnSignedMatchesSignExtensionModel", apart := false }
def FnSignedMatchesSignExtensionModelSaid : Prop := fnSignedMatchesSignExtensionModelRow.holds Try.pinned (OpenSpec.ofChange fnSignedMatchesSignExtensionModelSpec)

/-- ITS FALSE NEIGHBOUR: 'it returns false'. Refute it at one input. -/
def fnSignedMatchesSignExtensionModelWrong : ChangeSpec := { name := "fnSignedMatchesSignExtensionModel", fn := fun _ => fun
  | [d1, d2, d3, d4] => { results := [.lit (.bool false)], args := [d1, d2, d3, d4] }
  | _ => none }
def FnSignedMatchesSignExtensionModelWrongFalsely : Prop := fnSignedMatchesSignExtensionModelRow.holds Try.pinned (OpenSpec.ofChange fnSignedMatchesSignExtensionModelWrong)

/-- 'zzlaws_pkg_peerjson_b1.FnSignedReadsItsDecimal': WHATEVER THE INPUT: true; the input reads as it did. -/
def fnSignedReadsItsDecimalSpec : ChangeSpec := { name := "fnSignedReadsItsDecimal", fn := fun _ => fun
  | [d1, d2] => { results := [.lit (.bool true)], args := [d1, d2] }
  | _ => none }
def fnSignedReadsItsDecimalRow : OpenClaim := { program := "qxb6603827a", sum := "5ce02f1cac946074a3fc012e908d1d3f83b372eb4bb730c11277a9edb8126f31", func := "example.com/ambit/ambit/zzlaws_pkg_peerjson_b1.FnSignedReadsItsDecimal", spec := "fnSignedReadsItsDecimal", apart := false }
def FnSignedReadsItsDecimalSaid : Prop := fnSignedReadsItsDecimalRow.holds Try.pinned (OpenSpec.ofChange fnSignedReadsItsDecimalSpec)

/-- ITS FALSE NEIGHBOUR: 'it returns false'. Refute it at one input. -/
def fnSignedReadsItsDecimalWrong : ChangeSpec := { name := "fnSignedReadsItsDecimal", fn := fun _ => fun
  | [d1, d2] => { results := [.lit (.bool false)], args := [d1, d2] }
  | _ => none }
def FnSignedReadsItsDecimalWrongFalsely : Prop := fnSignedReadsItsDecimalRow.holds Try.pinned (OpenSpec.ofChange fnSignedReadsItsDecimalWrong)

end Rows
end Go.Proofs.Qxb6603827a
