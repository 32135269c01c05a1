/-
  No cell of these rows narrows 'for every input' (looked for: loops, veiled, ifaces, maps, wideKeys, modest, calm, conditions, laid).
  DERIVED. THE GIVEN ROWS OF THIS SEAT. 2 by the template 'for every input the law returns true; each argument reads behind the call as it read before'; 0 by the template 'total and deterministic' (their statements: Qxb6002369aFmtTotals.lean).
  GIVEN WITH THE SEED: the statements are not yours to turn. If you find one false, say at which input.
  Laid BY PROGRAM, IN A SANDBOX (cutbox-rows.mjs): the forced cells as the released guide's own fill.sh prints them over the translation 944945e90664a8c6… (all of the seat's roots in one cut). By AI agents, Wed Nov 11 2026. No macro, syntax, notation, axiom, sorry.
-/
import Derived.Test.Qxb6002369aFmtChecked
import GoSem.Claim
import GoSem.ClaimJoined
import GoSem.ClaimMapViews
import Derived.JoinedTies
import Derived.KernelRfl
namespace Go.Proofs.Qxb6002369aFmt
/- THE CELL 'sum', in the pinned program and in every row, IS THE sha256 OF THE DUMP (.gsa) THAT Qxb6002369aFmtProg.lean LOADS. Nothing in Lean hashes anything: it is a label: what it is worth is what the hold of that sum in a sandbox is worth. -/
noncomputable def Tryf.pinned : Pinned := { name := "qxb6002369afmt", sum := "944945e90664a8c65d6fd50f280d5d1a5b9faf12815f561f88e950379e8dd7b6", checked := Tryf.checked }
namespace Rows
def none {H : Type} : Left H := { results := [], args := [] }

/-- 'zzlaws_root_g1.FnRegexpRoomScriptAdmitsExactlyWhatFits': WHATEVER THE INPUT: true; the input reads as it did. -/
def fnRegexpRoomScriptAdmitsExactlyWhatFitsSpec : ChangeSpec := { name := "fnRegexpRoomScriptAdmitsExactlyWhatFits", fn := fun _ => fun
  | [d1, d2] => { results := [.lit (.bool true)], args := [d1, d2] }
  | _ => none }
def fnRegexpRoomScriptAdmitsExactlyWhatFitsRow : OpenClaim := { program := "qxb6002369afmt", sum := "944945e90664a8c65d6fd50f280d5d1a5b9faf12815f561f88e950379e8dd7b6", func := "example.com/fieldsieve/fieldsieve/zzlaws_root_g1.FnRegexpRoomScriptAdmitsExactlyWhatFits", spec := "fnRegexpRoomScriptAdmitsExactlyWhatFits", stops := ["fmt.errorf"], inPlace := ["fmt.errorf"], apart := false }
/-- NO THEOREM (fmt's text is open here; it may be false): for the released tool's asking of the row's closed facts alone. THE STATEMENT IS 'FnRegexpRoomScriptAdmitsExactlyWhatFitsToldSaid' (Qxb6002369aFmtCards.lean). -/
def FnRegexpRoomScriptAdmitsExactlyWhatFitsFormAsk : Prop := fnRegexpRoomScriptAdmitsExactlyWhatFitsRow.holds Tryf.pinned (OpenSpec.ofChange fnRegexpRoomScriptAdmitsExactlyWhatFitsSpec)

/-- ITS FALSE NEIGHBOUR: 'it returns false'. Refute it at one input. -/
def fnRegexpRoomScriptAdmitsExactlyWhatFitsWrong : ChangeSpec := { name := "fnRegexpRoomScriptAdmitsExactlyWhatFits", fn := fun _ => fun
  | [d1, d2] => { results := [.lit (.bool false)], args := [d1, d2] }
  | _ => none }
def FnRegexpRoomScriptAdmitsExactlyWhatFitsWrongFormAsk : Prop := fnRegexpRoomScriptAdmitsExactlyWhatFitsRow.holds Tryf.pinned (OpenSpec.ofChange fnRegexpRoomScriptAdmitsExactlyWhatFitsWrong)

/-- 'zzlaws_root_g1.FnRegexpRoomSplitTakeAgrees': WHATEVER THE INPUT: true; the input reads as it did. -/
def fnRegexpRoomSplitTakeAgreesSpec : ChangeSpec := { name := "fnRegexpRoomSplitTakeAgrees", fn := fun _ => fun
  | [d1, d2, d3, d4] => { results := [.lit (.bool true)], args := [d1, d2, d3, d4] }
  | _ => none }
def fnRegexpRoomSplitTakeAgreesRow : OpenClaim := { program := "qxb6002369afmt", sum := "944945e90664a8c65d6fd50f280d5d1a5b9faf12815f561f88e950379e8dd7b6", func := "example.com/fieldsieve/fieldsieve/zzlaws_root_g1.FnRegexpRoomSplitTakeAgrees", spec := "fnRegexpRoomSplitTakeAgrees", stops := ["fmt.errorf"], inPlace := ["fmt.errorf"], apart := false }
/-- NO THEOREM (fmt's text is open here; it may be false): for the released tool's asking of the row's closed facts alone. THE STATEMENT IS 'FnRegexpRoomSplitTakeAgreesToldSaid' (Qxb6002369aFmtCards.lean). -/
def FnRegexpRoomSplitTakeAgreesFormAsk : Prop := fnRegexpRoomSplitTakeAgreesRow.holds Tryf.pinned (OpenSpec.ofChange fnRegexpRoomSplitTakeAgreesSpec)

/-- ITS FALSE NEIGHBOUR: 'it returns false'. Refute it at one input. -/
def fnRegexpRoomSplitTakeAgreesWrong : ChangeSpec := { name := "fnRegexpRoomSplitTakeAgrees", fn := fun _ => fun
  | [d1, d2, d3, d4] => { results := [.lit (.bool false)], args := [d1, d2, d3, d4] }
  | _ => none }
def FnRegexpRoomSplitTakeAgreesWrongFormAsk : Prop := fnRegexpRoomSplitTakeAgreesRow.holds Tryf.pinned (OpenSpec.ofChange fnRegexpRoomSplitTakeAgreesWrong)

end Rows
end Go.Proofs.Qxb6002369aFmt
