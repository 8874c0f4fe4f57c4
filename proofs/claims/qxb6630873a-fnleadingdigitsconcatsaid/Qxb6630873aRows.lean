/-
  No cell of these rows narrows 'for every input' (looked for: loops, veiled, ifaces, maps, wideKeys, modest, calm, conditions, laid).
  DERIVED. THE GIVEN ROWS OF THIS SEAT. 2 by the template 'for every input the law returns true; each argument reads behind the call as it read before'; 0 by the template 'total and deterministic' (their statements: Qxb6630873aTotals.lean).
  GIVEN WITH THE SEED: the statements are not yours to turn. If you find one false, say at which input.
  Laid BY PROGRAM, IN A SANDBOX (cutbox-rows.mjs): the forced cells as the released guide's own fill.sh prints them over the translation ae206e8484f5f8d0… (all of the seat's roots in one cut). By AI agents, Wed Nov 11 2026. No macro, syntax, notation, axiom, sorry.
-/
import Derived.Test.Qxb6630873aChecked
import GoSem.Claim
import GoSem.ClaimJoined
import GoSem.ClaimMapViews
import Derived.JoinedTies
import Derived.KernelRfl
namespace Go.Proofs.Qxb6630873a
/- THE CELL 'sum', in the pinned program and in every row, IS THE sha256 OF THE DUMP (.gsa) THAT Qxb6630873aProg.lean LOADS. Nothing in Lean hashes anything: it is a label: what it is worth is what the hold of that sum in a sandbox is worth. -/
noncomputable def Try.pinned : Pinned := { name := "qxb6630873a", sum := "ae206e8484f5f8d0c643fb466874cf9a7193f6a8cd0630823fb5d834cd00a56a", checked := Try.checked }
namespace Rows
def none {H : Type} : Left H := { results := [], args := [] }

/-- 'zzlaws_internal_decimal_b1.FnLeadingDigitsConcat': WHATEVER THE INPUT: true; the input reads as it did. -/
def fnLeadingDigitsConcatSpec : ChangeSpec := { name := "fnLeadingDigitsConcat", fn := fun _ => fun
  | [d1, d2] => { results := [.lit (.bool true)], args := [d1, d2] }
  | _ => none }
def fnLeadingDigitsConcatRow : OpenClaim := { program := "qxb6630873a", sum := "ae206e8484f5f8d0c643fb466874cf9a7193f6a8cd0630823fb5d834cd00a56a", func := "example.com/referee/referee/zzlaws_internal_decimal_b1.FnLeadingDigitsConcat", spec := "fnLeadingDigitsConcat", apart := false }
def FnLeadingDigitsConcatSaid : Prop := fnLeadingDigitsConcatRow.holds Try.pinned (OpenSpec.ofChange fnLeadingDigitsConcatSpec)

/-- ITS FALSE NEIGHBOUR: 'it returns false'. Refute it at one input. -/
def fnLeadingDigitsConcatWrong : ChangeSpec := { name := "fnLeadingDigitsConcat", fn := fun _ => fun
  | [d1, d2] => { results := [.lit (.bool false)], args := [d1, d2] }
  | _ => none }
def FnLeadingDigitsConcatWrongFalsely : Prop := fnLeadingDigitsConcatRow.holds Try.pinned (OpenSpec.ofChange fnLeadingDigitsConcatWrong)

/-- 'zzlaws_internal_decimal_b1.FnLeadingDigitsConsByte': WHATEVER THE INPUT: true; the input reads as it did. -/
def fnLeadingDigitsConsByteSpec : ChangeSpec := { name := "fnLeadingDigitsConsByte", fn := fun _ => fun
  | [d1, d2] => { results := [.lit (.bool true)], args := [d1, d2] }
  | _ => none }
def fnLeadingDigitsConsByteRow : OpenClaim := { program := "qxb6630873a", sum := "ae206e8484f5f8d0c643fb466874cf9a7193f6a8cd0630823fb5d834cd00a56a", func := "example.com/referee/referee/zzlaws_internal_decimal_b1.FnLeadingDigitsConsByte", spec := "fnLeadingDigitsConsByte", apart := false }
def FnLeadingDigitsConsByteSaid : Prop := fnLeadingDigitsConsByteRow.holds Try.pinned (OpenSpec.ofChange fnLeadingDigitsConsByteSpec)

/-- ITS FALSE NEIGHBOUR: 'it returns false'. Refute it at one input. -/
def fnLeadingDigitsConsByteWrong : ChangeSpec := { name := "fnLeadingDigitsConsByte", fn := fun _ => fun
  | [d1, d2] => { results := [.lit (.bool false)], args := [d1, d2] }
  | _ => none }
def FnLeadingDigitsConsByteWrongFalsely : Prop := fnLeadingDigitsConsByteRow.holds Try.pinned (OpenSpec.ofChange fnLeadingDigitsConsByteWrong)

end Rows
end Go.Proofs.Qxb6630873a
