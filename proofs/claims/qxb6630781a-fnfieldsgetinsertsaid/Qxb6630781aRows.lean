/-
  No cell of these rows narrows 'for every input' (looked for: loops, veiled, ifaces, maps, wideKeys, modest, calm, conditions, laid).
  DERIVED. THE GIVEN ROWS OF THIS SEAT. 2 by the template 'for every input the law returns true; each argument reads behind the call as it read before'; 0 by the template 'total and deterministic' (their statements: Qxb6630781aTotals.lean).
  GIVEN WITH THE SEED: the statements are not yours to turn. If you find one false, say at which input.
  Laid BY PROGRAM, IN A SANDBOX (cutbox-rows.mjs): the forced cells as the released guide's own fill.sh prints them over the translation b316821331b1543c… (all of the seat's roots in one cut). By AI agents, Wed Nov 11 2026. No macro, syntax, notation, axiom, sorry.
-/
import Derived.Test.Qxb6630781aChecked
import GoSem.Claim
import GoSem.ClaimJoined
import GoSem.ClaimMapViews
import Derived.JoinedTies
import Derived.KernelRfl
namespace Go.Proofs.Qxb6630781a
/- THE CELL 'sum', in the pinned program and in every row, IS THE sha256 OF THE DUMP (.gsa) THAT Qxb6630781aProg.lean LOADS. Nothing in Lean hashes anything: it is a label: what it is worth is what the hold of that sum in a sandbox is worth. -/
noncomputable def Try.pinned : Pinned := { name := "qxb6630781a", sum := "b316821331b1543cde393f8ce56f9f4be68fdb8a53015c29c155102d9733793a", checked := Try.checked }
namespace Rows
def none {H : Type} : Left H := { results := [], args := [] }

/-- 'zzlaws_root_b1.FnFieldsGetCut': WHATEVER THE INPUT: true; the input reads as it did. -/
def fnFieldsGetCutSpec : ChangeSpec := { name := "fnFieldsGetCut", fn := fun _ => fun
  | [d1, d2, d3] => { results := [.lit (.bool true)], args := [d1, d2, d3] }
  | _ => none }
def fnFieldsGetCutRow : OpenClaim := { program := "qxb6630781a", sum := "b316821331b1543cde393f8ce56f9f4be68fdb8a53015c29c155102d9733793a", func := "example.com/tapweave/tapweave/zzlaws_root_b1.FnFieldsGetCut", spec := "fnFieldsGetCut", apart := false }
def FnFieldsGetCutSaid : Prop := fnFieldsGetCutRow.holds Try.pinned (OpenSpec.ofChange fnFieldsGetCutSpec)

/-- ITS FALSE NEIGHBOUR: 'it returns false'. Refute it at one input. -/
def fnFieldsGetCutWrong : ChangeSpec := { name := "fnFieldsGetCut", fn := fun _ => fun
  | [d1, d2, d3] => { results := [.lit (.bool false)], args := [d1, d2, d3] }
  | _ => none }
def FnFieldsGetCutWrongFalsely : Prop := fnFieldsGetCutRow.holds Try.pinned (OpenSpec.ofChange fnFieldsGetCutWrong)

/-- 'zzlaws_root_b1.FnFieldsGetInsert': WHATEVER THE INPUT: true; the input reads as it did. -/
def fnFieldsGetInsertSpec : ChangeSpec := { name := "fnFieldsGetInsert", fn := fun _ => fun
  | [d1, d2, d3, d4, d5] => { results := [.lit (.bool true)], args := [d1, d2, d3, d4, d5] }
  | _ => none }
def fnFieldsGetInsertRow : OpenClaim := { program := "qxb6630781a", sum := "b316821331b1543cde393f8ce56f9f4be68fdb8a53015c29c155102d9733793a", func := "example.com/tapweave/tapweave/zzlaws_root_b1.FnFieldsGetInsert", spec := "fnFieldsGetInsert", apart := false }
def FnFieldsGetInsertSaid : Prop := fnFieldsGetInsertRow.holds Try.pinned (OpenSpec.ofChange fnFieldsGetInsertSpec)

/-- ITS FALSE NEIGHBOUR: 'it returns false'. Refute it at one input. -/
def fnFieldsGetInsertWrong : ChangeSpec := { name := "fnFieldsGetInsert", fn := fun _ => fun
  | [d1, d2, d3, d4, d5] => { results := [.lit (.bool false)], args := [d1, d2, d3, d4, d5] }
  | _ => none }
def FnFieldsGetInsertWrongFalsely : Prop := fnFieldsGetInsertRow.holds Try.pinned (OpenSpec.ofChange fnFieldsGetInsertWrong)

end Rows
end Go.Proofs.Qxb6630781a
