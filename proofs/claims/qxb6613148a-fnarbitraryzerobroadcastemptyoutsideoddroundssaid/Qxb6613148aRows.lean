/-
  No cell of these rows narrows 'for every input' (looked for: loops, veiled, ifaces, maps, wideKeys, modest, calm, conditions, laid).
  DERIVED. THE GIVEN ROWS OF THIS SEAT. 1 by the template 'for every input the law returns true; each argument reads behind the call as it read before'; 0 by the template 'total and deterministic' (their statements: Qxb6613148aTotals.lean).
  GIVEN WITH THE SEED: the statements are not yours to turn. If you find one false, say at which input.
  Laid BY PROGRAM, IN A SANDBOX (cutbox-rows.mjs): the forced cells as the released guide's own fill.sh prints them over the translation 4b800afdc2b00477… (all of the seat's roots in one cut). By AI agents, Wed Nov 11 2026. No macro, syntax, notation, axiom, sorry.
-/
import Derived.Test.Qxb6613148aChecked
import GoSem.Claim
import GoSem.ClaimJoined
import GoSem.ClaimMapViews
import Derived.JoinedTies
import Derived.KernelRfl
namespace Go.Proofs.Qxb6613148a
/- THE CELL 'sum', in the pinned program and in every row, IS THE sha256 OF THE DUMP (.gsa) THAT Qxb6613148aProg.lean LOADS. Nothing in Lean hashes anything: it is a label: what it is worth is what the hold of that sum in a sandbox is worth. -/
noncomputable def Try.pinned : Pinned := { name := "qxb6613148a", sum := "4b800afdc2b0047737176704c7228a05c63cabd723f4c4da671106200a3a0490", checked := Try.checked }
namespace Rows
def none {H : Type} : Left H := { results := [], args := [] }

/-- 'zzlaws_homonym_b1.FnArbitraryZeroBroadcastEmptyOutsideOddRounds': WHATEVER THE INPUT: true; the input reads as it did. -/
def fnArbitraryZeroBroadcastEmptyOutsideOddRoundsSpec : ChangeSpec := { name := "fnArbitraryZeroBroadcastEmptyOutsideOddRounds", fn := fun _ => fun
  | [d1, d2, d3] => { results := [.lit (.bool true)], args := [d1, d2, d3] }
  | _ => none }
def fnArbitraryZeroBroadcastEmptyOutsideOddRoundsRow : OpenClaim := { program := "qxb6613148a", sum := "4b800afdc2b0047737176704c7228a05c63cabd723f4c4da671106200a3a0490", func := "example.com/namesake/namesake/zzlaws_homonym_b1.FnArbitraryZeroBroadcastEmptyOutsideOddRounds", spec := "fnArbitraryZeroBroadcastEmptyOutsideOddRounds", unfollowed := true, recurses := true, apart := false }
def FnArbitraryZeroBroadcastEmptyOutsideOddRoundsSaid : Prop := fnArbitraryZeroBroadcastEmptyOutsideOddRoundsRow.holds Try.pinned (OpenSpec.ofChange fnArbitraryZeroBroadcastEmptyOutsideOddRoundsSpec)

/-- ITS FALSE NEIGHBOUR: 'it returns false'. Refute it at one input. -/
def fnArbitraryZeroBroadcastEmptyOutsideOddRoundsWrong : ChangeSpec := { name := "fnArbitraryZeroBroadcastEmptyOutsideOddRounds", fn := fun _ => fun
  | [d1, d2, d3] => { results := [.lit (.bool false)], args := [d1, d2, d3] }
  | _ => none }
def FnArbitraryZeroBroadcastEmptyOutsideOddRoundsWrongFalsely : Prop := fnArbitraryZeroBroadcastEmptyOutsideOddRoundsRow.holds Try.pinned (OpenSpec.ofChange fnArbitraryZeroBroadcastEmptyOutsideOddRoundsWrong)

end Rows
end Go.Proofs.Qxb6613148a
