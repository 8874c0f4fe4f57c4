/-
  No cell of these rows narrows 'for every input' (looked for: loops, veiled, ifaces, maps, wideKeys, modest, calm, conditions, laid).
  DERIVED. THE GIVEN ROWS OF THIS SEAT. 2 by the template 'for every input the law returns true; each argument reads behind the call as it read before'; 0 by the template 'total and deterministic' (their statements: Qxb6630750aTotals.lean).
  GIVEN WITH THE SEED: the statements are not yours to turn. If you find one false, say at which input.
  Laid BY PROGRAM, IN A SANDBOX (cutbox-rows.mjs): the forced cells as the released guide's own fill.sh prints them over the translation 17bc095835696f4b… (all of the seat's roots in one cut). By AI agents, Wed Nov 11 2026. No macro, syntax, notation, axiom, sorry.
-/
import Derived.Test.Qxb6630750aChecked
import GoSem.Claim
import GoSem.ClaimJoined
import GoSem.ClaimMapViews
import Derived.JoinedTies
import Derived.KernelRfl
namespace Go.Proofs.Qxb6630750a
/- THE CELL 'sum', in the pinned program and in every row, IS THE sha256 OF THE DUMP (.gsa) THAT Qxb6630750aProg.lean LOADS. Nothing in Lean hashes anything: it is a label: what it is worth is what the hold of that sum in a sandbox is worth. -/
noncomputable def Try.pinned : Pinned := { name := "qxb6630750a", sum := "17bc095835696f4bd692fcc0e871bc022668d1734d5d08d3bad40bfc712b6860", checked := Try.checked }
namespace Rows
def none {H : Type} : Left H := { results := [], args := [] }

/-- 'zzlaws_root_b1.FnFillSetsExactlyFirstNBits': WHATEVER THE INPUT: true; the input reads as it did. -/
def fnFillSetsExactlyFirstNBitsSpec : ChangeSpec := { name := "fnFillSetsExactlyFirstNBits", fn := fun _ => fun
  | [d1, d2] => { results := [.lit (.bool true)], args := [d1, d2] }
  | _ => none }
def fnFillSetsExactlyFirstNBitsRow : OpenClaim := { program := "qxb6630750a", sum := "17bc095835696f4bd692fcc0e871bc022668d1734d5d08d3bad40bfc712b6860", func := "example.com/predicant/predicant/zzlaws_root_b1.FnFillSetsExactlyFirstNBits", spec := "fnFillSetsExactlyFirstNBits", apart := false }
def FnFillSetsExactlyFirstNBitsSaid : Prop := fnFillSetsExactlyFirstNBitsRow.holds Try.pinned (OpenSpec.ofChange fnFillSetsExactlyFirstNBitsSpec)

/-- ITS FALSE NEIGHBOUR: 'it returns false'. Refute it at one input. -/
def fnFillSetsExactlyFirstNBitsWrong : ChangeSpec := { name := "fnFillSetsExactlyFirstNBits", fn := fun _ => fun
  | [d1, d2] => { results := [.lit (.bool false)], args := [d1, d2] }
  | _ => none }
def FnFillSetsExactlyFirstNBitsWrongFalsely : Prop := fnFillSetsExactlyFirstNBitsRow.holds Try.pinned (OpenSpec.ofChange fnFillSetsExactlyFirstNBitsWrong)

/-- 'zzlaws_root_b1.FnFillLongerAfterShorterIsLonger': WHATEVER THE INPUT: true; the input reads as it did. -/
def fnFillLongerAfterShorterIsLongerSpec : ChangeSpec := { name := "fnFillLongerAfterShorterIsLonger", fn := fun _ => fun
  | [d1, d2, d3] => { results := [.lit (.bool true)], args := [d1, d2, d3] }
  | _ => none }
def fnFillLongerAfterShorterIsLongerRow : OpenClaim := { program := "qxb6630750a", sum := "17bc095835696f4bd692fcc0e871bc022668d1734d5d08d3bad40bfc712b6860", func := "example.com/predicant/predicant/zzlaws_root_b1.FnFillLongerAfterShorterIsLonger", spec := "fnFillLongerAfterShorterIsLonger", apart := false }
def FnFillLongerAfterShorterIsLongerSaid : Prop := fnFillLongerAfterShorterIsLongerRow.holds Try.pinned (OpenSpec.ofChange fnFillLongerAfterShorterIsLongerSpec)

/-- ITS FALSE NEIGHBOUR: 'it returns false'. Refute it at one input. -/
def fnFillLongerAfterShorterIsLongerWrong : ChangeSpec := { name := "fnFillLongerAfterShorterIsLonger", fn := fun _ => fun
  | [d1, d2, d3] => { results := [.lit (.bool false)], args := [d1, d2, d3] }
  | _ => none }
def FnFillLongerAfterShorterIsLongerWrongFalsely : Prop := fnFillLongerAfterShorterIsLongerRow.holds Try.pinned (OpenSpec.ofChange fnFillLongerAfterShorterIsLongerWrong)

end Rows
end Go.Proofs.Qxb6630750a
