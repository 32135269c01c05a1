/-
  No cell of these rows narrows 'for every input' (looked for: loops, veiled, ifaces, maps, wideKeys, modest, calm, conditions, laid).
  DERIVED. THE GIVEN ROWS OF THIS SEAT. 6 by the template 'for every input the law returns true; each argument reads behind the call as it read before'; 0 by the template 'total and deterministic' (their statements: Qxb6002376aFmtTotals.lean).
  GIVEN WITH THE SEED: the statements are not yours to turn. If you find one false, say at which input.
  Laid BY PROGRAM, IN A SANDBOX (cutbox-rows.mjs): the forced cells as the released guide's own fill.sh prints them over the translation 3607e9dc2b11895e… (all of the seat's roots in one cut). By AI agents, Wed Nov 11 2026. No macro, syntax, notation, axiom, sorry.
-/
import Derived.Test.Qxb6002376aFmtChecked
import GoSem.Claim
import GoSem.ClaimJoined
import GoSem.ClaimMapViews
import Derived.JoinedTies
import Derived.KernelRfl
namespace Go.Proofs.Qxb6002376aFmt
/- THE CELL 'sum', in the pinned program and in every row, IS THE sha256 OF THE DUMP (.gsa) THAT Qxb6002376aFmtProg.lean LOADS. Nothing in Lean hashes anything: it is a label: what it is worth is what the hold of that sum in a sandbox is worth. -/
noncomputable def Tryf.pinned : Pinned := { name := "qxb6002376afmt", sum := "3607e9dc2b11895e825cde06980a9fe99066fad6d7aa63f30e1d9e3f497416bd", checked := Tryf.checked }
namespace Rows
def none {H : Type} : Left H := { results := [], args := [] }

/-- 'zzlaws_wire_g1.FnParseNameReadsOwnPresentation': WHATEVER THE INPUT: true; the input reads as it did. -/
def fnParseNameReadsOwnPresentationSpec : ChangeSpec := { name := "fnParseNameReadsOwnPresentation", fn := fun _ => fun
  | [d1, d2, d3] => { results := [.lit (.bool true)], args := [d1, d2, d3] }
  | _ => none }
def fnParseNameReadsOwnPresentationRow : OpenClaim := { program := "qxb6002376afmt", sum := "3607e9dc2b11895e825cde06980a9fe99066fad6d7aa63f30e1d9e3f497416bd", func := "example.com/zoneglass/zoneglass/zzlaws_wire_g1.FnParseNameReadsOwnPresentation", spec := "fnParseNameReadsOwnPresentation", stops := ["fmt.errorf", "fmt.Sprintf"], inPlace := ["fmt.errorf"], unfollowed := true, recurses := true, apart := false }
/-- NO THEOREM (fmt's text is open here; it may be false): for the released tool's asking of the row's closed facts alone. THE STATEMENT IS 'FnParseNameReadsOwnPresentationToldSaid' (Qxb6002376aFmtCards.lean). -/
def FnParseNameReadsOwnPresentationFormAsk : Prop := fnParseNameReadsOwnPresentationRow.holds Tryf.pinned (OpenSpec.ofChange fnParseNameReadsOwnPresentationSpec)

/-- ITS FALSE NEIGHBOUR: 'it returns false'. Refute it at one input. -/
def fnParseNameReadsOwnPresentationWrong : ChangeSpec := { name := "fnParseNameReadsOwnPresentation", fn := fun _ => fun
  | [d1, d2, d3] => { results := [.lit (.bool false)], args := [d1, d2, d3] }
  | _ => none }
def FnParseNameReadsOwnPresentationWrongFormAsk : Prop := fnParseNameReadsOwnPresentationRow.holds Tryf.pinned (OpenSpec.ofChange fnParseNameReadsOwnPresentationWrong)

/-- 'zzlaws_wire_g1.FnReadNameReadsCompressedNames': WHATEVER THE INPUT: true; the input reads as it did. -/
def fnReadNameReadsCompressedNamesSpec : ChangeSpec := { name := "fnReadNameReadsCompressedNames", fn := fun _ => fun
  | [d1, d2, d3] => { results := [.lit (.bool true)], args := [d1, d2, d3] }
  | _ => none }
def fnReadNameReadsCompressedNamesRow : OpenClaim := { program := "qxb6002376afmt", sum := "3607e9dc2b11895e825cde06980a9fe99066fad6d7aa63f30e1d9e3f497416bd", func := "example.com/zoneglass/zoneglass/zzlaws_wire_g1.FnReadNameReadsCompressedNames", spec := "fnReadNameReadsCompressedNames", stops := ["fmt.errorf", "fmt.Sprintf"], inPlace := ["fmt.Sprintf"], apart := false }
/-- NO THEOREM (fmt's text is open here; it may be false): for the released tool's asking of the row's closed facts alone. THE STATEMENT IS 'FnReadNameReadsCompressedNamesToldSaid' (Qxb6002376aFmtCards.lean). -/
def FnReadNameReadsCompressedNamesFormAsk : Prop := fnReadNameReadsCompressedNamesRow.holds Tryf.pinned (OpenSpec.ofChange fnReadNameReadsCompressedNamesSpec)

/-- ITS FALSE NEIGHBOUR: 'it returns false'. Refute it at one input. -/
def fnReadNameReadsCompressedNamesWrong : ChangeSpec := { name := "fnReadNameReadsCompressedNames", fn := fun _ => fun
  | [d1, d2, d3] => { results := [.lit (.bool false)], args := [d1, d2, d3] }
  | _ => none }
def FnReadNameReadsCompressedNamesWrongFormAsk : Prop := fnReadNameReadsCompressedNamesRow.holds Tryf.pinned (OpenSpec.ofChange fnReadNameReadsCompressedNamesWrong)

/-- 'zzlaws_wire_g1.FnReadNameGivesWellFormedName': WHATEVER THE INPUT: true; the input reads as it did. -/
def fnReadNameGivesWellFormedNameSpec : ChangeSpec := { name := "fnReadNameGivesWellFormedName", fn := fun _ => fun
  | [d1, d2] => { results := [.lit (.bool true)], args := [d1, d2] }
  | _ => none }
def fnReadNameGivesWellFormedNameRow : OpenClaim := { program := "qxb6002376afmt", sum := "3607e9dc2b11895e825cde06980a9fe99066fad6d7aa63f30e1d9e3f497416bd", func := "example.com/zoneglass/zoneglass/zzlaws_wire_g1.FnReadNameGivesWellFormedName", spec := "fnReadNameGivesWellFormedName", stops := ["fmt.errorf", "fmt.Sprintf"], inPlace := ["fmt.Sprintf"], apart := false }
/-- NO THEOREM (fmt's text is open here; it may be false): for the released tool's asking of the row's closed facts alone. THE STATEMENT IS 'FnReadNameGivesWellFormedNameToldSaid' (Qxb6002376aFmtCards.lean). -/
def FnReadNameGivesWellFormedNameFormAsk : Prop := fnReadNameGivesWellFormedNameRow.holds Tryf.pinned (OpenSpec.ofChange fnReadNameGivesWellFormedNameSpec)

/-- ITS FALSE NEIGHBOUR: 'it returns false'. Refute it at one input. -/
def fnReadNameGivesWellFormedNameWrong : ChangeSpec := { name := "fnReadNameGivesWellFormedName", fn := fun _ => fun
  | [d1, d2] => { results := [.lit (.bool false)], args := [d1, d2] }
  | _ => none }
def FnReadNameGivesWellFormedNameWrongFormAsk : Prop := fnReadNameGivesWellFormedNameRow.holds Tryf.pinned (OpenSpec.ofChange fnReadNameGivesWellFormedNameWrong)

/-- 'zzlaws_wire_g1.FnReadNameIgnoresBytesAfter': WHATEVER THE INPUT: true; the input reads as it did. -/
def fnReadNameIgnoresBytesAfterSpec : ChangeSpec := { name := "fnReadNameIgnoresBytesAfter", fn := fun _ => fun
  | [d1, d2, d3] => { results := [.lit (.bool true)], args := [d1, d2, d3] }
  | _ => none }
def fnReadNameIgnoresBytesAfterRow : OpenClaim := { program := "qxb6002376afmt", sum := "3607e9dc2b11895e825cde06980a9fe99066fad6d7aa63f30e1d9e3f497416bd", func := "example.com/zoneglass/zoneglass/zzlaws_wire_g1.FnReadNameIgnoresBytesAfter", spec := "fnReadNameIgnoresBytesAfter", stops := ["fmt.errorf", "fmt.Sprintf"], inPlace := ["fmt.Sprintf"], apart := false }
/-- NO THEOREM (fmt's text is open here; it may be false): for the released tool's asking of the row's closed facts alone. THE STATEMENT IS 'FnReadNameIgnoresBytesAfterToldSaid' (Qxb6002376aFmtCards.lean). -/
def FnReadNameIgnoresBytesAfterFormAsk : Prop := fnReadNameIgnoresBytesAfterRow.holds Tryf.pinned (OpenSpec.ofChange fnReadNameIgnoresBytesAfterSpec)

/-- ITS FALSE NEIGHBOUR: 'it returns false'. Refute it at one input. -/
def fnReadNameIgnoresBytesAfterWrong : ChangeSpec := { name := "fnReadNameIgnoresBytesAfter", fn := fun _ => fun
  | [d1, d2, d3] => { results := [.lit (.bool false)], args := [d1, d2, d3] }
  | _ => none }
def FnReadNameIgnoresBytesAfterWrongFormAsk : Prop := fnReadNameIgnoresBytesAfterRow.holds Tryf.pinned (OpenSpec.ofChange fnReadNameIgnoresBytesAfterWrong)

/-- 'zzlaws_wire_g1.FnParseDomainWiderAlsoKeepsAccepted': WHATEVER THE INPUT: true; the input reads as it did. -/
def fnParseDomainWiderAlsoKeepsAcceptedSpec : ChangeSpec := { name := "fnParseDomainWiderAlsoKeepsAccepted", fn := fun _ => fun
  | [d1, d2, d3] => { results := [.lit (.bool true)], args := [d1, d2, d3] }
  | _ => none }
def fnParseDomainWiderAlsoKeepsAcceptedRow : OpenClaim := { program := "qxb6002376afmt", sum := "3607e9dc2b11895e825cde06980a9fe99066fad6d7aa63f30e1d9e3f497416bd", func := "example.com/zoneglass/zoneglass/zzlaws_wire_g1.FnParseDomainWiderAlsoKeepsAccepted", spec := "fnParseDomainWiderAlsoKeepsAccepted", stops := ["fmt.errorf", "fmt.Sprintf"], inPlace := ["fmt.errorf", "internal/bytealg.IndexByteString"], unfollowed := true, recurses := true, apart := false }
/-- NO THEOREM (fmt's text is open here; it may be false): for the released tool's asking of the row's closed facts alone. THE STATEMENT IS 'FnParseDomainWiderAlsoKeepsAcceptedToldSaid' (Qxb6002376aFmtCards.lean). -/
def FnParseDomainWiderAlsoKeepsAcceptedFormAsk : Prop := fnParseDomainWiderAlsoKeepsAcceptedRow.holds Tryf.pinned (OpenSpec.ofChange fnParseDomainWiderAlsoKeepsAcceptedSpec)

/-- ITS FALSE NEIGHBOUR: 'it returns false'. Refute it at one input. -/
def fnParseDomainWiderAlsoKeepsAcceptedWrong : ChangeSpec := { name := "fnParseDomainWiderAlsoKeepsAccepted", fn := fun _ => fun
  | [d1, d2, d3] => { results := [.lit (.bool false)], args := [d1, d2, d3] }
  | _ => none }
def FnParseDomainWiderAlsoKeepsAcceptedWrongFormAsk : Prop := fnParseDomainWiderAlsoKeepsAcceptedRow.holds Tryf.pinned (OpenSpec.ofChange fnParseDomainWiderAlsoKeepsAcceptedWrong)

/-- 'zzlaws_wire_g1.FnTXTPackWritesCharacterStrings': WHATEVER THE INPUT: true; the input reads as it did. -/
def fnTXTPackWritesCharacterStringsSpec : ChangeSpec := { name := "fnTXTPackWritesCharacterStrings", fn := fun _ => fun
  | [d1, d2] => { results := [.lit (.bool true)], args := [d1, d2] }
  | _ => none }
def fnTXTPackWritesCharacterStringsRow : OpenClaim := { program := "qxb6002376afmt", sum := "3607e9dc2b11895e825cde06980a9fe99066fad6d7aa63f30e1d9e3f497416bd", func := "example.com/zoneglass/zoneglass/zzlaws_wire_g1.FnTXTPackWritesCharacterStrings", spec := "fnTXTPackWritesCharacterStrings", stops := ["fmt.errorf", "fmt.Sprintf"], inPlace := ["fmt.errorf"], apart := false }
/-- NO THEOREM (fmt's text is open here; it may be false): for the released tool's asking of the row's closed facts alone. THE STATEMENT IS 'FnTXTPackWritesCharacterStringsToldSaid' (Qxb6002376aFmtCards.lean). -/
def FnTXTPackWritesCharacterStringsFormAsk : Prop := fnTXTPackWritesCharacterStringsRow.holds Tryf.pinned (OpenSpec.ofChange fnTXTPackWritesCharacterStringsSpec)

/-- ITS FALSE NEIGHBOUR: 'it returns false'. Refute it at one input. -/
def fnTXTPackWritesCharacterStringsWrong : ChangeSpec := { name := "fnTXTPackWritesCharacterStrings", fn := fun _ => fun
  | [d1, d2] => { results := [.lit (.bool false)], args := [d1, d2] }
  | _ => none }
def FnTXTPackWritesCharacterStringsWrongFormAsk : Prop := fnTXTPackWritesCharacterStringsRow.holds Tryf.pinned (OpenSpec.ofChange fnTXTPackWritesCharacterStringsWrong)

end Rows
end Go.Proofs.Qxb6002376aFmt
