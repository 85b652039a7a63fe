/-
  NARROWER THAN 'FOR EVERY INPUT', by the rows' own cells (each row's printed sentence says how): FnMembersNamesOnly: laid · FnNumberCut: laid · FnNumberSign: laid.
  DERIVED. THE GIVEN ROWS OF THIS SEAT. 3 by the template 'for every input the law returns true; each argument reads behind the call as it read before'; 0 by the template 'total and deterministic' (their statements: Qxb6616277aFmtTotals.lean).
  GIVEN WITH THE SEED: the statements are not yours to turn. If you find one false, say at which input.
  Laid BY PROGRAM, IN A SANDBOX (cutbox-rows.mjs): the forced cells as the released guide's own fill.sh prints them over the translation dd8956e544dbd74e… (all of the seat's roots in one cut). By AI agents, Wed Nov 11 2026. No macro, syntax, notation, axiom, sorry.
-/
import Derived.Test.Qxb6616277aFmtChecked
import GoSem.PinnedTables
import GoSem.Claim
import GoSem.ClaimJoined
import GoSem.ClaimMapViews
import Derived.JoinedTies
import Derived.KernelRfl
namespace Go.Proofs.Qxb6616277aFmt
/- THE CELL 'sum', in the pinned program and in every row, IS THE sha256 OF THE DUMP (.gsa) THAT Qxb6616277aFmtProg.lean LOADS. Nothing in Lean hashes anything: it is a label: what it is worth is what the hold of that sum in a sandbox is worth. -/
noncomputable def Tryf.pinned : Pinned := { name := "qxb6616277afmt", sum := "dd8956e544dbd74e401ee334811a05821f8be7c4cc46eb93186cddd4191d7880", checked := Tryf.checked }
namespace Rows
def none {H : Type} : Left H := { results := [], args := [] }

/- WHAT THE LISTED PACKAGE-LEVEL VARIABLES READ AS WHEN THE CALL BEGINS. Each datum BY PROGRAM (the guide's laid-datum.mjs) off the statement by which the dump's own 'gosem.cut.vars' lays the variable. In a bare row this is a premise. The card (Qxb6616277aFmtCards.lean) ties it to the program's text. -/
def laid_unicode_utf8_acceptRanges {H : Type} : DataW H := .agg [.agg [.lit (.int .u8 128), .lit (.int .u8 191)], .agg [.lit (.int .u8 160), .lit (.int .u8 191)], .agg [.lit (.int .u8 128), .lit (.int .u8 159)], .agg [.lit (.int .u8 144), .lit (.int .u8 191)], .agg [.lit (.int .u8 128), .lit (.int .u8 143)], .agg [.lit (.int .u8 0), .lit (.int .u8 0)], .agg [.lit (.int .u8 0), .lit (.int .u8 0)], .agg [.lit (.int .u8 0), .lit (.int .u8 0)], .agg [.lit (.int .u8 0), .lit (.int .u8 0)], .agg [.lit (.int .u8 0), .lit (.int .u8 0)], .agg [.lit (.int .u8 0), .lit (.int .u8 0)], .agg [.lit (.int .u8 0), .lit (.int .u8 0)], .agg [.lit (.int .u8 0), .lit (.int .u8 0)], .agg [.lit (.int .u8 0), .lit (.int .u8 0)], .agg [.lit (.int .u8 0), .lit (.int .u8 0)], .agg [.lit (.int .u8 0), .lit (.int .u8 0)]]
def laid_io_EOF {H : Type} : DataW H := .iface "*errors.errorString" (.ptr (.agg [.lit (.string [69, 79, 70])]))
/-- One of Go's own tables, pinned by name: the form's constant. -/
def laid_unicode_utf8_first : DataW Unit := Go.Pinned.utf8First

/-- 'zzlaws_internal_jsonwalk_b1.FnMembersNamesOnly': WHATEVER THE INPUT: true; the input reads as it did. -/
def fnMembersNamesOnlySpec : ChangeSpec := { name := "fnMembersNamesOnly", fn := fun _ => fun
  | [d] => { results := [.lit (.bool true)], args := [d] }
  | _ => none }
def fnMembersNamesOnlyRow : OpenClaim := { program := "qxb6616277afmt", sum := "dd8956e544dbd74e401ee334811a05821f8be7c4cc46eb93186cddd4191d7880", func := "example.com/broad-attest/broad-attest/zzlaws_internal_jsonwalk_b1.FnMembersNamesOnly", spec := "fnMembersNamesOnly", stops := ["fmt.Sprintf", "fmt.errorf"], inPlace := ["fmt.Sprintf", "fmt.errorf"], unfollowed := true, recurses := true, named := ["io.EOF", "unicode/utf8.first", "unicode/utf8.acceptRanges"], apart := false, laid := [("unicode/utf8.acceptRanges", laid_unicode_utf8_acceptRanges), ("io.EOF", laid_io_EOF), ("unicode/utf8.first", laid_unicode_utf8_first)] }
/-- NO THEOREM (fmt's text is open here; it may be false): for the released tool's asking of the row's closed facts alone. THE STATEMENT IS 'FnMembersNamesOnlyToldSaid' (Qxb6616277aFmtCards.lean). -/
def FnMembersNamesOnlyFormAsk : Prop := fnMembersNamesOnlyRow.holds Tryf.pinned (OpenSpec.ofChange fnMembersNamesOnlySpec)

/-- ITS FALSE NEIGHBOUR: 'it returns false'. Refute it at one input. -/
def fnMembersNamesOnlyWrong : ChangeSpec := { name := "fnMembersNamesOnly", fn := fun _ => fun
  | [d] => { results := [.lit (.bool false)], args := [d] }
  | _ => none }
def FnMembersNamesOnlyWrongFormAsk : Prop := fnMembersNamesOnlyRow.holds Tryf.pinned (OpenSpec.ofChange fnMembersNamesOnlyWrong)

/-- 'zzlaws_internal_jsonwalk_b1.FnNumberCut': WHATEVER THE INPUT: true; the input reads as it did. -/
def fnNumberCutSpec : ChangeSpec := { name := "fnNumberCut", fn := fun _ => fun
  | [d1, d2] => { results := [.lit (.bool true)], args := [d1, d2] }
  | _ => none }
def fnNumberCutRow : OpenClaim := { program := "qxb6616277afmt", sum := "dd8956e544dbd74e401ee334811a05821f8be7c4cc46eb93186cddd4191d7880", func := "example.com/broad-attest/broad-attest/zzlaws_internal_jsonwalk_b1.FnNumberCut", spec := "fnNumberCut", stops := ["fmt.Sprintf", "fmt.errorf"], inPlace := ["fmt.Sprintf"], unfollowed := true, recurses := true, named := ["io.EOF"], apart := false, laid := [("io.EOF", laid_io_EOF)] }
/-- NO THEOREM (fmt's text is open here; it may be false): for the released tool's asking of the row's closed facts alone. THE STATEMENT IS 'FnNumberCutToldSaid' (Qxb6616277aFmtCards.lean). -/
def FnNumberCutFormAsk : Prop := fnNumberCutRow.holds Tryf.pinned (OpenSpec.ofChange fnNumberCutSpec)

/-- ITS FALSE NEIGHBOUR: 'it returns false'. Refute it at one input. -/
def fnNumberCutWrong : ChangeSpec := { name := "fnNumberCut", fn := fun _ => fun
  | [d1, d2] => { results := [.lit (.bool false)], args := [d1, d2] }
  | _ => none }
def FnNumberCutWrongFormAsk : Prop := fnNumberCutRow.holds Tryf.pinned (OpenSpec.ofChange fnNumberCutWrong)

/-- 'zzlaws_internal_jsonwalk_b1.FnNumberSign': WHATEVER THE INPUT: true; the input reads as it did. -/
def fnNumberSignSpec : ChangeSpec := { name := "fnNumberSign", fn := fun _ => fun
  | [d] => { results := [.lit (.bool true)], args := [d] }
  | _ => none }
def fnNumberSignRow : OpenClaim := { program := "qxb6616277afmt", sum := "dd8956e544dbd74e401ee334811a05821f8be7c4cc46eb93186cddd4191d7880", func := "example.com/broad-attest/broad-attest/zzlaws_internal_jsonwalk_b1.FnNumberSign", spec := "fnNumberSign", stops := ["fmt.Sprintf", "fmt.errorf"], inPlace := ["fmt.Sprintf"], unfollowed := true, recurses := true, named := ["io.EOF"], apart := false, laid := [("io.EOF", laid_io_EOF)] }
/-- NO THEOREM (fmt's text is open here; it may be false): for the released tool's asking of the row's closed facts alone. THE STATEMENT IS 'FnNumberSignToldSaid' (Qxb6616277aFmtCards.lean). -/
def FnNumberSignFormAsk : Prop := fnNumberSignRow.holds Tryf.pinned (OpenSpec.ofChange fnNumberSignSpec)

/-- ITS FALSE NEIGHBOUR: 'it returns false'. Refute it at one input. -/
def fnNumberSignWrong : ChangeSpec := { name := "fnNumberSign", fn := fun _ => fun
  | [d] => { results := [.lit (.bool false)], args := [d] }
  | _ => none }
def FnNumberSignWrongFormAsk : Prop := fnNumberSignRow.holds Tryf.pinned (OpenSpec.ofChange fnNumberSignWrong)

end Rows
end Go.Proofs.Qxb6616277aFmt
