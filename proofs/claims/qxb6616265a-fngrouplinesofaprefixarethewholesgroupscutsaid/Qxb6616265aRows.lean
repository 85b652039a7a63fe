/-
  No cell of these rows narrows 'for every input' (looked for: loops, veiled, ifaces, maps, wideKeys, modest, calm, conditions, laid).
  DERIVED. THE GIVEN ROWS OF THIS SEAT. 5 by the template 'for every input the law returns true; each argument reads behind the call as it read before'; 0 by the template 'total and deterministic' (their statements: Qxb6616265aTotals.lean).
  GIVEN WITH THE SEED: the statements are not yours to turn. If you find one false, say at which input.
  Laid BY PROGRAM, IN A SANDBOX (cutbox-rows.mjs): the forced cells as the released guide's own fill.sh prints them over the translation c0e51606929608b9… (all of the seat's roots in one cut). By AI agents, Wed Nov 11 2026. No macro, syntax, notation, axiom, sorry.
-/
import Derived.Test.Qxb6616265aChecked
import GoSem.Claim
import GoSem.ClaimJoined
import GoSem.ClaimMapViews
import Derived.JoinedTies
import Derived.KernelRfl
namespace Go.Proofs.Qxb6616265a
/- THE CELL 'sum', in the pinned program and in every row, IS THE sha256 OF THE DUMP (.gsa) THAT Qxb6616265aProg.lean LOADS. Nothing in Lean hashes anything: it is a label: what it is worth is what the hold of that sum in a sandbox is worth. -/
noncomputable def Try.pinned : Pinned := { name := "qxb6616265a", sum := "c0e51606929608b9e6c615d28290d651247850908a4eabc98c28350154b248c0", checked := Try.checked }
namespace Rows
def none {H : Type} : Left H := { results := [], args := [] }

/-- 'zzlaws_root_b1.FnDirHeapSwapAtBothEndsReversesTheSegment': WHATEVER THE INPUT: true; the input reads as it did. -/
def fnDirHeapSwapAtBothEndsReversesTheSegmentSpec : ChangeSpec := { name := "fnDirHeapSwapAtBothEndsReversesTheSegment", fn := fun _ => fun
  | [d1, d2, d3] => { results := [.lit (.bool true)], args := [d1, d2, d3] }
  | _ => none }
def fnDirHeapSwapAtBothEndsReversesTheSegmentRow : OpenClaim := { program := "qxb6616265a", sum := "c0e51606929608b9e6c615d28290d651247850908a4eabc98c28350154b248c0", func := "example.com/pemilik/pemilik/zzlaws_root_b1.FnDirHeapSwapAtBothEndsReversesTheSegment", spec := "fnDirHeapSwapAtBothEndsReversesTheSegment", plainKeys := false, apart := false }
def FnDirHeapSwapAtBothEndsReversesTheSegmentSaid : Prop := fnDirHeapSwapAtBothEndsReversesTheSegmentRow.holds Try.pinned (OpenSpec.ofChange fnDirHeapSwapAtBothEndsReversesTheSegmentSpec)

/-- ITS FALSE NEIGHBOUR: 'it returns false'. Refute it at one input. -/
def fnDirHeapSwapAtBothEndsReversesTheSegmentWrong : ChangeSpec := { name := "fnDirHeapSwapAtBothEndsReversesTheSegment", fn := fun _ => fun
  | [d1, d2, d3] => { results := [.lit (.bool false)], args := [d1, d2, d3] }
  | _ => none }
def FnDirHeapSwapAtBothEndsReversesTheSegmentWrongFalsely : Prop := fnDirHeapSwapAtBothEndsReversesTheSegmentRow.holds Try.pinned (OpenSpec.ofChange fnDirHeapSwapAtBothEndsReversesTheSegmentWrong)

/-- 'zzlaws_root_b1.FnDirHeapAdjacentSwapsMoveOneElement': WHATEVER THE INPUT: true; the input reads as it did. -/
def fnDirHeapAdjacentSwapsMoveOneElementSpec : ChangeSpec := { name := "fnDirHeapAdjacentSwapsMoveOneElement", fn := fun _ => fun
  | [d1, d2, d3] => { results := [.lit (.bool true)], args := [d1, d2, d3] }
  | _ => none }
def fnDirHeapAdjacentSwapsMoveOneElementRow : OpenClaim := { program := "qxb6616265a", sum := "c0e51606929608b9e6c615d28290d651247850908a4eabc98c28350154b248c0", func := "example.com/pemilik/pemilik/zzlaws_root_b1.FnDirHeapAdjacentSwapsMoveOneElement", spec := "fnDirHeapAdjacentSwapsMoveOneElement", plainKeys := false, apart := false }
def FnDirHeapAdjacentSwapsMoveOneElementSaid : Prop := fnDirHeapAdjacentSwapsMoveOneElementRow.holds Try.pinned (OpenSpec.ofChange fnDirHeapAdjacentSwapsMoveOneElementSpec)

/-- ITS FALSE NEIGHBOUR: 'it returns false'. Refute it at one input. -/
def fnDirHeapAdjacentSwapsMoveOneElementWrong : ChangeSpec := { name := "fnDirHeapAdjacentSwapsMoveOneElement", fn := fun _ => fun
  | [d1, d2, d3] => { results := [.lit (.bool false)], args := [d1, d2, d3] }
  | _ => none }
def FnDirHeapAdjacentSwapsMoveOneElementWrongFalsely : Prop := fnDirHeapAdjacentSwapsMoveOneElementRow.holds Try.pinned (OpenSpec.ofChange fnDirHeapAdjacentSwapsMoveOneElementWrong)

/-- 'zzlaws_root_b1.FnGroupLinesMatchesAFirstOccurrenceModel': WHATEVER THE INPUT: true; the input reads as it did. -/
def fnGroupLinesMatchesAFirstOccurrenceModelSpec : ChangeSpec := { name := "fnGroupLinesMatchesAFirstOccurrenceModel", fn := fun _ => fun
  | [d1, d2, d3] => { results := [.lit (.bool true)], args := [d1, d2, d3] }
  | _ => none }
def fnGroupLinesMatchesAFirstOccurrenceModelRow : OpenClaim := { program := "qxb6616265a", sum := "c0e51606929608b9e6c615d28290d651247850908a4eabc98c28350154b248c0", func := "example.com/pemilik/pemilik/zzlaws_root_b1.FnGroupLinesMatchesAFirstOccurrenceModel", spec := "fnGroupLinesMatchesAFirstOccurrenceModel", plainKeys := false, apart := false }
def FnGroupLinesMatchesAFirstOccurrenceModelSaid : Prop := fnGroupLinesMatchesAFirstOccurrenceModelRow.holds Try.pinned (OpenSpec.ofChange fnGroupLinesMatchesAFirstOccurrenceModelSpec)

/-- ITS FALSE NEIGHBOUR: 'it returns false'. Refute it at one input. -/
def fnGroupLinesMatchesAFirstOccurrenceModelWrong : ChangeSpec := { name := "fnGroupLinesMatchesAFirstOccurrenceModel", fn := fun _ => fun
  | [d1, d2, d3] => { results := [.lit (.bool false)], args := [d1, d2, d3] }
  | _ => none }
def FnGroupLinesMatchesAFirstOccurrenceModelWrongFalsely : Prop := fnGroupLinesMatchesAFirstOccurrenceModelRow.holds Try.pinned (OpenSpec.ofChange fnGroupLinesMatchesAFirstOccurrenceModelWrong)

/-- 'zzlaws_root_b1.FnGroupLinesOfAPrefixAreTheWholesGroupsCut': WHATEVER THE INPUT: true; the input reads as it did. -/
def fnGroupLinesOfAPrefixAreTheWholesGroupsCutSpec : ChangeSpec := { name := "fnGroupLinesOfAPrefixAreTheWholesGroupsCut", fn := fun _ => fun
  | [d1, d2, d3, d4] => { results := [.lit (.bool true)], args := [d1, d2, d3, d4] }
  | _ => none }
def fnGroupLinesOfAPrefixAreTheWholesGroupsCutRow : OpenClaim := { program := "qxb6616265a", sum := "c0e51606929608b9e6c615d28290d651247850908a4eabc98c28350154b248c0", func := "example.com/pemilik/pemilik/zzlaws_root_b1.FnGroupLinesOfAPrefixAreTheWholesGroupsCut", spec := "fnGroupLinesOfAPrefixAreTheWholesGroupsCut", plainKeys := false, apart := false }
def FnGroupLinesOfAPrefixAreTheWholesGroupsCutSaid : Prop := fnGroupLinesOfAPrefixAreTheWholesGroupsCutRow.holds Try.pinned (OpenSpec.ofChange fnGroupLinesOfAPrefixAreTheWholesGroupsCutSpec)

/-- ITS FALSE NEIGHBOUR: 'it returns false'. Refute it at one input. -/
def fnGroupLinesOfAPrefixAreTheWholesGroupsCutWrong : ChangeSpec := { name := "fnGroupLinesOfAPrefixAreTheWholesGroupsCut", fn := fun _ => fun
  | [d1, d2, d3, d4] => { results := [.lit (.bool false)], args := [d1, d2, d3, d4] }
  | _ => none }
def FnGroupLinesOfAPrefixAreTheWholesGroupsCutWrongFalsely : Prop := fnGroupLinesOfAPrefixAreTheWholesGroupsCutRow.holds Try.pinned (OpenSpec.ofChange fnGroupLinesOfAPrefixAreTheWholesGroupsCutWrong)

/-- 'zzlaws_root_b1.FnSlashMoveNamesStepDownBelowNotUTF8': WHATEVER THE INPUT: true; the input reads as it did. -/
def fnSlashMoveNamesStepDownBelowNotUTF8Spec : ChangeSpec := { name := "fnSlashMoveNamesStepDownBelowNotUTF8", fn := fun _ => fun
  | [d1, d2] => { results := [.lit (.bool true)], args := [d1, d2] }
  | _ => none }
def fnSlashMoveNamesStepDownBelowNotUTF8Row : OpenClaim := { program := "qxb6616265a", sum := "c0e51606929608b9e6c615d28290d651247850908a4eabc98c28350154b248c0", func := "example.com/pemilik/pemilik/zzlaws_root_b1.FnSlashMoveNamesStepDownBelowNotUTF8", spec := "fnSlashMoveNamesStepDownBelowNotUTF8", plainKeys := false, apart := false }
def FnSlashMoveNamesStepDownBelowNotUTF8Said : Prop := fnSlashMoveNamesStepDownBelowNotUTF8Row.holds Try.pinned (OpenSpec.ofChange fnSlashMoveNamesStepDownBelowNotUTF8Spec)

/-- ITS FALSE NEIGHBOUR: 'it returns false'. Refute it at one input. -/
def fnSlashMoveNamesStepDownBelowNotUTF8Wrong : ChangeSpec := { name := "fnSlashMoveNamesStepDownBelowNotUTF8", fn := fun _ => fun
  | [d1, d2] => { results := [.lit (.bool false)], args := [d1, d2] }
  | _ => none }
def FnSlashMoveNamesStepDownBelowNotUTF8WrongFalsely : Prop := fnSlashMoveNamesStepDownBelowNotUTF8Row.holds Try.pinned (OpenSpec.ofChange fnSlashMoveNamesStepDownBelowNotUTF8Wrong)

end Rows
end Go.Proofs.Qxb6616265a
