/-
  DERIVED. GIVEN WITH THE SEED: THE CARDS: each row of Qxb6600429aDoorRows.lean that lists a variable, with what it lists TIED to the program's text (the seventh form; the later family's looks); each row that meets fmt, with fmt's text TOLD by the authors' own Lean function (tested against real Go, not proved from fmt's source: count such statements apart). THE CARD IS WHAT COUNTS. Prove the row's statement (the work); the ties are given (Qxb6600429aDoorTie.lean); close each card by the builder's one call (the guide's Derived/Test/ToyasCard.lean, 'card_holds'). Laid BY PROGRAM, IN A SANDBOX (cutbox-door.mjs). By AI agents, Wed Nov 11 2026. No macro, syntax, notation, axiom, sorry.
-/
import Derived.Test.Qxb6600429aDoorRows
import GoSem.ClaimSeven
namespace Go.Proofs.Qxb6600429aDoor
namespace Rows

/-- THE TIED CARD OF 'zzlaws_internal_jsonobject_b1.FnEscapedUnitMatchesHexModel'. -/
def fnEscapedUnitMatchesHexModelCard : Claim7 := { stood := { row := fnEscapedUnitMatchesHexModelRow, standIns := [], harness := (true, "b98b8781c07fb60c8a73e22f30b9785877014e21bdd100713abf10d028a57f4d"), looks := true }, kinds := [], alts := [], laidByText := true, laidKinds := [.data, .data, .data, .sentinel, .sentinel], laidTests := true, laidLooks := .later }
def FnEscapedUnitMatchesHexModelCardSaid : Prop := Claim7.holds Tryd.pinned (.plain (OpenSpec.ofChange fnEscapedUnitMatchesHexModelSpec)) fnEscapedUnitMatchesHexModelCard

/-- THE TIED CARD OF 'zzlaws_internal_jsonobject_b1.FnEscapedUnitInvertsEscape'. -/
def fnEscapedUnitInvertsEscapeCard : Claim7 := { stood := { row := fnEscapedUnitInvertsEscapeRow, standIns := [], harness := (true, "b98b8781c07fb60c8a73e22f30b9785877014e21bdd100713abf10d028a57f4d"), looks := true }, kinds := [], alts := [], laidByText := true, laidKinds := [.data, .data, .data, .sentinel, .sentinel], laidTests := true, laidLooks := .later }
def FnEscapedUnitInvertsEscapeCardSaid : Prop := Claim7.holds Tryd.pinned (.plain (OpenSpec.ofChange fnEscapedUnitInvertsEscapeSpec)) fnEscapedUnitInvertsEscapeCard

/-- THE TIED CARD OF 'zzlaws_internal_jsonobject_b1.FnEscapedUnitReadsSixBytesAlone'. -/
def fnEscapedUnitReadsSixBytesAloneCard : Claim7 := { stood := { row := fnEscapedUnitReadsSixBytesAloneRow, standIns := [], harness := (true, "b98b8781c07fb60c8a73e22f30b9785877014e21bdd100713abf10d028a57f4d"), looks := true }, kinds := [], alts := [], laidByText := true, laidKinds := [.data, .data, .data, .sentinel, .sentinel], laidTests := true, laidLooks := .later }
def FnEscapedUnitReadsSixBytesAloneCardSaid : Prop := Claim7.holds Tryd.pinned (.plain (OpenSpec.ofChange fnEscapedUnitReadsSixBytesAloneSpec)) fnEscapedUnitReadsSixBytesAloneCard
end Rows
end Go.Proofs.Qxb6600429aDoor
