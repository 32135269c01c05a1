/-
  DERIVED. GIVEN WITH THE SEED: THE CARDS: each row of Qxb6002376aFmtRows.lean that lists a variable, with what it lists TIED to the program's text (the seventh form; the later family's looks); each row that meets fmt, with fmt's text TOLD by the authors' own Lean function (tested against real Go, not proved from fmt's source: count such statements apart). THE CARD IS WHAT COUNTS. Prove the row's statement (the work); the ties are given (Qxb6002376aFmtTie.lean); close each card by the builder's one call (the guide's Derived/Test/ToyasCard.lean, 'card_holds'). Laid BY PROGRAM, IN A SANDBOX (cutbox-door.mjs). By AI agents, Wed Nov 11 2026. No macro, syntax, notation, axiom, sorry.
-/
import Derived.Test.Qxb6002376aFmtRows
import GoSem.ClaimSeven
namespace Go.Proofs.Qxb6002376aFmt
namespace Rows

/-- THE TOLD CARD OF 'zzlaws_wire_g1.FnParseNameReadsOwnPresentation'. -/
def fnParseNameReadsOwnPresentationCard : Claim7 := { stood := { row := fnParseNameReadsOwnPresentationRow, standIns := [], harness := (true, "c8ffa0899f69b5b947fe2a244bc180d4f871c06dfbb167ce307b4e6963108a31"), looks := false }, told := true, goes := false }
def FnParseNameReadsOwnPresentationToldSaid : Prop := Claim7.holds Tryf.pinned (.plain (OpenSpec.ofChange fnParseNameReadsOwnPresentationSpec)) fnParseNameReadsOwnPresentationCard
/-- ITS FALSE NEIGHBOUR. Refute it at one input. -/
def FnParseNameReadsOwnPresentationToldWrongFalsely : Prop := Claim7.holds Tryf.pinned (.plain (OpenSpec.ofChange fnParseNameReadsOwnPresentationWrong)) fnParseNameReadsOwnPresentationCard

/-- THE TOLD CARD OF 'zzlaws_wire_g1.FnReadNameReadsCompressedNames'. -/
def fnReadNameReadsCompressedNamesCard : Claim7 := { stood := { row := fnReadNameReadsCompressedNamesRow, standIns := [], harness := (true, "c8ffa0899f69b5b947fe2a244bc180d4f871c06dfbb167ce307b4e6963108a31"), looks := false }, told := true, goes := false }
def FnReadNameReadsCompressedNamesToldSaid : Prop := Claim7.holds Tryf.pinned (.plain (OpenSpec.ofChange fnReadNameReadsCompressedNamesSpec)) fnReadNameReadsCompressedNamesCard
/-- ITS FALSE NEIGHBOUR. Refute it at one input. -/
def FnReadNameReadsCompressedNamesToldWrongFalsely : Prop := Claim7.holds Tryf.pinned (.plain (OpenSpec.ofChange fnReadNameReadsCompressedNamesWrong)) fnReadNameReadsCompressedNamesCard

/-- THE TOLD CARD OF 'zzlaws_wire_g1.FnReadNameGivesWellFormedName'. -/
def fnReadNameGivesWellFormedNameCard : Claim7 := { stood := { row := fnReadNameGivesWellFormedNameRow, standIns := [], harness := (true, "c8ffa0899f69b5b947fe2a244bc180d4f871c06dfbb167ce307b4e6963108a31"), looks := false }, told := true, goes := false }
def FnReadNameGivesWellFormedNameToldSaid : Prop := Claim7.holds Tryf.pinned (.plain (OpenSpec.ofChange fnReadNameGivesWellFormedNameSpec)) fnReadNameGivesWellFormedNameCard
/-- ITS FALSE NEIGHBOUR. Refute it at one input. -/
def FnReadNameGivesWellFormedNameToldWrongFalsely : Prop := Claim7.holds Tryf.pinned (.plain (OpenSpec.ofChange fnReadNameGivesWellFormedNameWrong)) fnReadNameGivesWellFormedNameCard

/-- THE TOLD CARD OF 'zzlaws_wire_g1.FnReadNameIgnoresBytesAfter'. -/
def fnReadNameIgnoresBytesAfterCard : Claim7 := { stood := { row := fnReadNameIgnoresBytesAfterRow, standIns := [], harness := (true, "c8ffa0899f69b5b947fe2a244bc180d4f871c06dfbb167ce307b4e6963108a31"), looks := false }, told := true, goes := false }
def FnReadNameIgnoresBytesAfterToldSaid : Prop := Claim7.holds Tryf.pinned (.plain (OpenSpec.ofChange fnReadNameIgnoresBytesAfterSpec)) fnReadNameIgnoresBytesAfterCard
/-- ITS FALSE NEIGHBOUR. Refute it at one input. -/
def FnReadNameIgnoresBytesAfterToldWrongFalsely : Prop := Claim7.holds Tryf.pinned (.plain (OpenSpec.ofChange fnReadNameIgnoresBytesAfterWrong)) fnReadNameIgnoresBytesAfterCard

/-- THE TOLD CARD OF 'zzlaws_wire_g1.FnParseDomainWiderAlsoKeepsAccepted'. -/
def fnParseDomainWiderAlsoKeepsAcceptedCard : Claim7 := { stood := { row := fnParseDomainWiderAlsoKeepsAcceptedRow, standIns := [], harness := (true, "c8ffa0899f69b5b947fe2a244bc180d4f871c06dfbb167ce307b4e6963108a31"), looks := false }, told := true, goes := false }
def FnParseDomainWiderAlsoKeepsAcceptedToldSaid : Prop := Claim7.holds Tryf.pinned (.plain (OpenSpec.ofChange fnParseDomainWiderAlsoKeepsAcceptedSpec)) fnParseDomainWiderAlsoKeepsAcceptedCard
/-- ITS FALSE NEIGHBOUR. Refute it at one input. -/
def FnParseDomainWiderAlsoKeepsAcceptedToldWrongFalsely : Prop := Claim7.holds Tryf.pinned (.plain (OpenSpec.ofChange fnParseDomainWiderAlsoKeepsAcceptedWrong)) fnParseDomainWiderAlsoKeepsAcceptedCard

/-- THE TOLD CARD OF 'zzlaws_wire_g1.FnTXTPackWritesCharacterStrings'. -/
def fnTXTPackWritesCharacterStringsCard : Claim7 := { stood := { row := fnTXTPackWritesCharacterStringsRow, standIns := [], harness := (true, "c8ffa0899f69b5b947fe2a244bc180d4f871c06dfbb167ce307b4e6963108a31"), looks := false }, told := true, goes := false }
def FnTXTPackWritesCharacterStringsToldSaid : Prop := Claim7.holds Tryf.pinned (.plain (OpenSpec.ofChange fnTXTPackWritesCharacterStringsSpec)) fnTXTPackWritesCharacterStringsCard
/-- ITS FALSE NEIGHBOUR. Refute it at one input. -/
def FnTXTPackWritesCharacterStringsToldWrongFalsely : Prop := Claim7.holds Tryf.pinned (.plain (OpenSpec.ofChange fnTXTPackWritesCharacterStringsWrong)) fnTXTPackWritesCharacterStringsCard
end Rows
end Go.Proofs.Qxb6002376aFmt
