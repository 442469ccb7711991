/-
  No cell of these rows narrows 'for every input' (looked for: loops, veiled, ifaces, maps, wideKeys, modest, calm, conditions, laid).
  DERIVED. THE GIVEN ROWS OF THIS SEAT. 1 by the template 'for every input the law returns true; each argument reads behind the call as it read before'; 0 by the template 'total and deterministic' (their statements: Qxb6613129aTotals.lean).
  GIVEN WITH THE SEED: the statements are not yours to turn. If you find one false, say at which input.
  Laid BY PROGRAM, IN A SANDBOX (cutbox-rows.mjs): the forced cells as the released guide's own fill.sh prints them over the translation 37a5b1fd9034ea0d… (all of the seat's roots in one cut). By AI agents, Wed Nov 11 2026. No macro, syntax, notation, axiom, sorry.
-/
import Derived.Test.Qxb6613129aChecked
import GoSem.Claim
import GoSem.ClaimJoined
import GoSem.ClaimMapViews
import Derived.JoinedTies
import Derived.KernelRfl
namespace Go.Proofs.Qxb6613129a
/- THE CELL 'sum', in the pinned program and in every row, IS THE sha256 OF THE DUMP (.gsa) THAT Qxb6613129aProg.lean LOADS. Nothing in Lean hashes anything: it is a label: what it is worth is what the hold of that sum in a sandbox is worth. -/
noncomputable def Try.pinned : Pinned := { name := "qxb6613129a", sum := "37a5b1fd9034ea0da9d3e4e8f22bde04620a3b4e753d448f8abc045ebc4ad9eb", checked := Try.checked }
namespace Rows
def none {H : Type} : Left H := { results := [], args := [] }

/-- 'zzlaws_internal_metadata_b1.FnHiddenIsOneClosedGroupOneLevelDeeper': WHATEVER THE INPUT: true; the input reads as it did. -/
def fnHiddenIsOneClosedGroupOneLevelDeeperSpec : ChangeSpec := { name := "fnHiddenIsOneClosedGroupOneLevelDeeper", fn := fun _ => fun
  | [d] => { results := [.lit (.bool true)], args := [d] }
  | _ => none }
def fnHiddenIsOneClosedGroupOneLevelDeeperRow : OpenClaim := { program := "qxb6613129a", sum := "37a5b1fd9034ea0da9d3e4e8f22bde04620a3b4e753d448f8abc045ebc4ad9eb", func := "example.com/stowage/stowage/zzlaws_internal_metadata_b1.FnHiddenIsOneClosedGroupOneLevelDeeper", spec := "fnHiddenIsOneClosedGroupOneLevelDeeper", apart := false }
def FnHiddenIsOneClosedGroupOneLevelDeeperSaid : Prop := fnHiddenIsOneClosedGroupOneLevelDeeperRow.holds Try.pinned (OpenSpec.ofChange fnHiddenIsOneClosedGroupOneLevelDeeperSpec)

/-- ITS FALSE NEIGHBOUR: 'it returns false'. Refute it at one input. -/
def fnHiddenIsOneClosedGroupOneLevelDeeperWrong : ChangeSpec := { name := "fnHiddenIsOneClosedGroupOneLevelDeeper", fn := fun _ => fun
  | [d] => { results := [.lit (.bool false)], args := [d] }
  | _ => none }
def FnHiddenIsOneClosedGroupOneLevelDeeperWrongFalsely : Prop := fnHiddenIsOneClosedGroupOneLevelDeeperRow.holds Try.pinned (OpenSpec.ofChange fnHiddenIsOneClosedGroupOneLevelDeeperWrong)

end Rows
end Go.Proofs.Qxb6613129a
