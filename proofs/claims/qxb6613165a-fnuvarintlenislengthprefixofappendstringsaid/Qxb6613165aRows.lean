/-
  No cell of these rows narrows 'for every input' (looked for: loops, veiled, ifaces, maps, wideKeys, modest, calm, conditions, laid).
  DERIVED. THE GIVEN ROWS OF THIS SEAT. 2 by the template 'for every input the law returns true; each argument reads behind the call as it read before'; 0 by the template 'total and deterministic' (their statements: Qxb6613165aTotals.lean).
  GIVEN WITH THE SEED: the statements are not yours to turn. If you find one false, say at which input.
  Laid BY PROGRAM, IN A SANDBOX (cutbox-rows.mjs): the forced cells as the released guide's own fill.sh prints them over the translation 29a15096796d057a… (all of the seat's roots in one cut). By AI agents, Wed Nov 11 2026. No macro, syntax, notation, axiom, sorry.
-/
import Derived.Test.Qxb6613165aChecked
import GoSem.Claim
import GoSem.ClaimJoined
import GoSem.ClaimMapViews
import Derived.JoinedTies
import Derived.KernelRfl
namespace Go.Proofs.Qxb6613165a
/- THE CELL 'sum', in the pinned program and in every row, IS THE sha256 OF THE DUMP (.gsa) THAT Qxb6613165aProg.lean LOADS. Nothing in Lean hashes anything: it is a label: what it is worth is what the hold of that sum in a sandbox is worth. -/
noncomputable def Try.pinned : Pinned := { name := "qxb6613165a", sum := "29a15096796d057ad327a0f4a88d25b0cfad0868abf174911e47adf0771aea6c", checked := Try.checked }
namespace Rows
def none {H : Type} : Left H := { results := [], args := [] }

/-- 'zzlaws_internal_wire_b1.FnUvarintLenStepsBySevenBits': WHATEVER THE INPUT: true; the input reads as it did. -/
def fnUvarintLenStepsBySevenBitsSpec : ChangeSpec := { name := "fnUvarintLenStepsBySevenBits", fn := fun _ => fun
  | [d] => { results := [.lit (.bool true)], args := [d] }
  | _ => none }
def fnUvarintLenStepsBySevenBitsRow : OpenClaim := { program := "qxb6613165a", sum := "29a15096796d057ad327a0f4a88d25b0cfad0868abf174911e47adf0771aea6c", func := "example.com/viewspace/viewspace/zzlaws_internal_wire_b1.FnUvarintLenStepsBySevenBits", spec := "fnUvarintLenStepsBySevenBits", apart := false }
def FnUvarintLenStepsBySevenBitsSaid : Prop := fnUvarintLenStepsBySevenBitsRow.holds Try.pinned (OpenSpec.ofChange fnUvarintLenStepsBySevenBitsSpec)

/-- ITS FALSE NEIGHBOUR: 'it returns false'. Refute it at one input. -/
def fnUvarintLenStepsBySevenBitsWrong : ChangeSpec := { name := "fnUvarintLenStepsBySevenBits", fn := fun _ => fun
  | [d] => { results := [.lit (.bool false)], args := [d] }
  | _ => none }
def FnUvarintLenStepsBySevenBitsWrongFalsely : Prop := fnUvarintLenStepsBySevenBitsRow.holds Try.pinned (OpenSpec.ofChange fnUvarintLenStepsBySevenBitsWrong)

/-- 'zzlaws_internal_wire_b1.FnUvarintLenIsLengthPrefixOfAppendString': WHATEVER THE INPUT: true; the input reads as it did. -/
def fnUvarintLenIsLengthPrefixOfAppendStringSpec : ChangeSpec := { name := "fnUvarintLenIsLengthPrefixOfAppendString", fn := fun _ => fun
  | [d1, d2] => { results := [.lit (.bool true)], args := [d1, d2] }
  | _ => none }
def fnUvarintLenIsLengthPrefixOfAppendStringRow : OpenClaim := { program := "qxb6613165a", sum := "29a15096796d057ad327a0f4a88d25b0cfad0868abf174911e47adf0771aea6c", func := "example.com/viewspace/viewspace/zzlaws_internal_wire_b1.FnUvarintLenIsLengthPrefixOfAppendString", spec := "fnUvarintLenIsLengthPrefixOfAppendString", apart := false }
def FnUvarintLenIsLengthPrefixOfAppendStringSaid : Prop := fnUvarintLenIsLengthPrefixOfAppendStringRow.holds Try.pinned (OpenSpec.ofChange fnUvarintLenIsLengthPrefixOfAppendStringSpec)

/-- ITS FALSE NEIGHBOUR: 'it returns false'. Refute it at one input. -/
def fnUvarintLenIsLengthPrefixOfAppendStringWrong : ChangeSpec := { name := "fnUvarintLenIsLengthPrefixOfAppendString", fn := fun _ => fun
  | [d1, d2] => { results := [.lit (.bool false)], args := [d1, d2] }
  | _ => none }
def FnUvarintLenIsLengthPrefixOfAppendStringWrongFalsely : Prop := fnUvarintLenIsLengthPrefixOfAppendStringRow.holds Try.pinned (OpenSpec.ofChange fnUvarintLenIsLengthPrefixOfAppendStringWrong)

end Rows
end Go.Proofs.Qxb6613165a
