/-
  No cell of these rows narrows 'for every input' (looked for: loops, veiled, ifaces, maps, wideKeys, modest, calm, conditions, laid).
  DERIVED. THE GIVEN ROWS OF THIS SEAT. 1 by the template 'for every input the law returns true; each argument reads behind the call as it read before'; 0 by the template 'total and deterministic' (their statements: Qxb6617606aTotals.lean).
  GIVEN WITH THE SEED: the statements are not yours to turn. If you find one false, say at which input.
  Laid BY PROGRAM, IN A SANDBOX (cutbox-rows.mjs): the forced cells as the released guide's own fill.sh prints them over the translation 397ee8904afe5abf… (all of the seat's roots in one cut). By AI agents, Wed Nov 11 2026. No macro, syntax, notation, axiom, sorry.
-/
import Derived.Test.Qxb6617606aChecked
import GoSem.Claim
import GoSem.ClaimJoined
import GoSem.ClaimMapViews
import Derived.JoinedTies
import Derived.KernelRfl
namespace Go.Proofs.Qxb6617606a
/- THE CELL 'sum', in the pinned program and in every row, IS THE sha256 OF THE DUMP (.gsa) THAT Qxb6617606aProg.lean LOADS. Nothing in Lean hashes anything: it is a label: what it is worth is what the hold of that sum in a sandbox is worth. -/
noncomputable def Try.pinned : Pinned := { name := "qxb6617606a", sum := "397ee8904afe5abfadede95167e54445b35946f38b481d5168049efd245cc25e", checked := Try.checked }
namespace Rows
def none {H : Type} : Left H := { results := [], args := [] }

/-- 'zzlaws_internal_wipe_b1.FnGrowTwiceKeepsBytesGivesRoomAndWipesWhatItLeaves': WHATEVER THE INPUT: true; the input reads as it did. -/
def fnGrowTwiceKeepsBytesGivesRoomAndWipesWhatItLeavesSpec : ChangeSpec := { name := "fnGrowTwiceKeepsBytesGivesRoomAndWipesWhatItLeaves", fn := fun _ => fun
  | [d1, d2, d3, d4] => { results := [.lit (.bool true)], args := [d1, d2, d3, d4] }
  | _ => none }
def fnGrowTwiceKeepsBytesGivesRoomAndWipesWhatItLeavesRow : OpenClaim := { program := "qxb6617606a", sum := "397ee8904afe5abfadede95167e54445b35946f38b481d5168049efd245cc25e", func := "example.com/hushvault/hushvault/zzlaws_internal_wipe_b1.FnGrowTwiceKeepsBytesGivesRoomAndWipesWhatItLeaves", spec := "fnGrowTwiceKeepsBytesGivesRoomAndWipesWhatItLeaves", apart := false }
def FnGrowTwiceKeepsBytesGivesRoomAndWipesWhatItLeavesSaid : Prop := fnGrowTwiceKeepsBytesGivesRoomAndWipesWhatItLeavesRow.holds Try.pinned (OpenSpec.ofChange fnGrowTwiceKeepsBytesGivesRoomAndWipesWhatItLeavesSpec)

/-- ITS FALSE NEIGHBOUR: 'it returns false'. Refute it at one input. -/
def fnGrowTwiceKeepsBytesGivesRoomAndWipesWhatItLeavesWrong : ChangeSpec := { name := "fnGrowTwiceKeepsBytesGivesRoomAndWipesWhatItLeaves", fn := fun _ => fun
  | [d1, d2, d3, d4] => { results := [.lit (.bool false)], args := [d1, d2, d3, d4] }
  | _ => none }
def FnGrowTwiceKeepsBytesGivesRoomAndWipesWhatItLeavesWrongFalsely : Prop := fnGrowTwiceKeepsBytesGivesRoomAndWipesWhatItLeavesRow.holds Try.pinned (OpenSpec.ofChange fnGrowTwiceKeepsBytesGivesRoomAndWipesWhatItLeavesWrong)

end Rows
end Go.Proofs.Qxb6617606a
