/-
  No cell of these rows narrows 'for every input' (looked for: loops, veiled, ifaces, maps, wideKeys, modest, calm, conditions, laid).
  DERIVED. THE GIVEN ROWS OF THIS SEAT. 2 by the template 'for every input the law returns true; each argument reads behind the call as it read before'; 0 by the template 'total and deterministic' (their statements: Qxb6630819aTotals.lean).
  GIVEN WITH THE SEED: the statements are not yours to turn. If you find one false, say at which input.
  Laid BY PROGRAM, IN A SANDBOX (cutbox-rows.mjs): the forced cells as the released guide's own fill.sh prints them over the translation 6489821b8cd3b7ac… (all of the seat's roots in one cut). By AI agents, Wed Nov 11 2026. No macro, syntax, notation, axiom, sorry.
-/
import Derived.Test.Qxb6630819aChecked
import GoSem.Claim
import GoSem.ClaimJoined
import GoSem.ClaimMapViews
import Derived.JoinedTies
import Derived.KernelRfl
namespace Go.Proofs.Qxb6630819a
/- THE CELL 'sum', in the pinned program and in every row, IS THE sha256 OF THE DUMP (.gsa) THAT Qxb6630819aProg.lean LOADS. Nothing in Lean hashes anything: it is a label: what it is worth is what the hold of that sum in a sandbox is worth. -/
noncomputable def Try.pinned : Pinned := { name := "qxb6630819a", sum := "6489821b8cd3b7ac421780a8f256bf6443e945b569aa40197f25598e68bf92a1", checked := Try.checked }
namespace Rows
def none {H : Type} : Left H := { results := [], args := [] }

/-- 'zzlaws_policy_b1.FnNewSetHoldsExactlyBuiltinRoles': WHATEVER THE INPUT: true; the input reads as it did. -/
def fnNewSetHoldsExactlyBuiltinRolesSpec : ChangeSpec := { name := "fnNewSetHoldsExactlyBuiltinRoles", fn := fun _ => fun
  | [d1, d2] => { results := [.lit (.bool true)], args := [d1, d2] }
  | _ => none }
def fnNewSetHoldsExactlyBuiltinRolesRow : OpenClaim := { program := "qxb6630819a", sum := "6489821b8cd3b7ac421780a8f256bf6443e945b569aa40197f25598e68bf92a1", func := "example.com/edict/edict/zzlaws_policy_b1.FnNewSetHoldsExactlyBuiltinRoles", spec := "fnNewSetHoldsExactlyBuiltinRoles", plainKeys := false, apart := false }
def FnNewSetHoldsExactlyBuiltinRolesSaid : Prop := fnNewSetHoldsExactlyBuiltinRolesRow.holds Try.pinned (OpenSpec.ofChange fnNewSetHoldsExactlyBuiltinRolesSpec)

/-- ITS FALSE NEIGHBOUR: 'it returns false'. Refute it at one input. -/
def fnNewSetHoldsExactlyBuiltinRolesWrong : ChangeSpec := { name := "fnNewSetHoldsExactlyBuiltinRoles", fn := fun _ => fun
  | [d1, d2] => { results := [.lit (.bool false)], args := [d1, d2] }
  | _ => none }
def FnNewSetHoldsExactlyBuiltinRolesWrongFalsely : Prop := fnNewSetHoldsExactlyBuiltinRolesRow.holds Try.pinned (OpenSpec.ofChange fnNewSetHoldsExactlyBuiltinRolesWrong)

/-- 'zzlaws_policy_b1.FnNewSetCallsShareNothing': WHATEVER THE INPUT: true; the input reads as it did. -/
def fnNewSetCallsShareNothingSpec : ChangeSpec := { name := "fnNewSetCallsShareNothing", fn := fun _ => fun
  | [] => { results := [.lit (.bool true)], args := [] }
  | _ => none }
def fnNewSetCallsShareNothingRow : OpenClaim := { program := "qxb6630819a", sum := "6489821b8cd3b7ac421780a8f256bf6443e945b569aa40197f25598e68bf92a1", func := "example.com/edict/edict/zzlaws_policy_b1.FnNewSetCallsShareNothing", spec := "fnNewSetCallsShareNothing", plainKeys := false, apart := false }
def FnNewSetCallsShareNothingSaid : Prop := fnNewSetCallsShareNothingRow.holds Try.pinned (OpenSpec.ofChange fnNewSetCallsShareNothingSpec)

/-- ITS FALSE NEIGHBOUR: 'it returns false'. Refute it at one input. -/
def fnNewSetCallsShareNothingWrong : ChangeSpec := { name := "fnNewSetCallsShareNothing", fn := fun _ => fun
  | [] => { results := [.lit (.bool false)], args := [] }
  | _ => none }
def FnNewSetCallsShareNothingWrongFalsely : Prop := fnNewSetCallsShareNothingRow.holds Try.pinned (OpenSpec.ofChange fnNewSetCallsShareNothingWrong)

end Rows
end Go.Proofs.Qxb6630819a
