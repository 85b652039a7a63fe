/-
  DERIVED. GIVEN WITH THE SEED: THE CARDS: each row of Qxb6616277aFmtRows.lean that lists a variable, with what it lists TIED to the program's text (the seventh form; the later family's looks); each row that meets fmt, with fmt's text TOLD by the authors' own Lean function (tested against real Go, not proved from fmt's source: count such statements apart). THE CARD IS WHAT COUNTS. Prove the row's statement (the work); the ties are given (Qxb6616277aFmtTie.lean); close each card by the builder's one call (the guide's Derived/Test/ToyasCard.lean, 'card_holds'). Laid BY PROGRAM, IN A SANDBOX (cutbox-door.mjs). By AI agents, Wed Nov 11 2026. No macro, syntax, notation, axiom, sorry.
-/
import Derived.Test.Qxb6616277aFmtRows
import GoSem.ClaimSeven
namespace Go.Proofs.Qxb6616277aFmt
namespace Rows

/-- THE TOLD AND TIED CARD OF 'zzlaws_internal_jsonwalk_b1.FnMembersNamesOnly'. -/
def fnMembersNamesOnlyCard : Claim7 := { stood := { row := fnMembersNamesOnlyRow, standIns := [], harness := (true, "bda4c909977641681599aba4a31b64b774a6dc79540e539555df7bffb9458775"), looks := true }, told := true, laidByText := true, laidKinds := [.data, .sentinel, .pinned], laidTests := true, laidLooks := .later, goes := false }
def FnMembersNamesOnlyToldSaid : Prop := Claim7.holds Tryf.pinned (.plain (OpenSpec.ofChange fnMembersNamesOnlySpec)) fnMembersNamesOnlyCard
/-- ITS FALSE NEIGHBOUR. Refute it at one input. -/
def FnMembersNamesOnlyToldWrongFalsely : Prop := Claim7.holds Tryf.pinned (.plain (OpenSpec.ofChange fnMembersNamesOnlyWrong)) fnMembersNamesOnlyCard

/-- THE TOLD AND TIED CARD OF 'zzlaws_internal_jsonwalk_b1.FnNumberCut'. -/
def fnNumberCutCard : Claim7 := { stood := { row := fnNumberCutRow, standIns := [], harness := (true, "bda4c909977641681599aba4a31b64b774a6dc79540e539555df7bffb9458775"), looks := true }, told := true, laidByText := true, laidKinds := [.sentinel], laidTests := true, laidLooks := .later, goes := false }
def FnNumberCutToldSaid : Prop := Claim7.holds Tryf.pinned (.plain (OpenSpec.ofChange fnNumberCutSpec)) fnNumberCutCard
/-- ITS FALSE NEIGHBOUR. Refute it at one input. -/
def FnNumberCutToldWrongFalsely : Prop := Claim7.holds Tryf.pinned (.plain (OpenSpec.ofChange fnNumberCutWrong)) fnNumberCutCard

/-- THE TOLD AND TIED CARD OF 'zzlaws_internal_jsonwalk_b1.FnNumberSign'. -/
def fnNumberSignCard : Claim7 := { stood := { row := fnNumberSignRow, standIns := [], harness := (true, "bda4c909977641681599aba4a31b64b774a6dc79540e539555df7bffb9458775"), looks := true }, told := true, laidByText := true, laidKinds := [.sentinel], laidTests := true, laidLooks := .later, goes := false }
def FnNumberSignToldSaid : Prop := Claim7.holds Tryf.pinned (.plain (OpenSpec.ofChange fnNumberSignSpec)) fnNumberSignCard
/-- ITS FALSE NEIGHBOUR. Refute it at one input. -/
def FnNumberSignToldWrongFalsely : Prop := Claim7.holds Tryf.pinned (.plain (OpenSpec.ofChange fnNumberSignWrong)) fnNumberSignCard
end Rows
end Go.Proofs.Qxb6616277aFmt
