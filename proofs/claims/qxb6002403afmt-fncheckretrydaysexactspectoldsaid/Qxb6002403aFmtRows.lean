/-
  No cell of these rows narrows 'for every input' (looked for: loops, veiled, ifaces, maps, wideKeys, modest, calm, conditions, laid).
  DERIVED. THE GIVEN ROWS OF THIS SEAT. 1 by the template 'for every input the law returns true; each argument reads behind the call as it read before'; 0 by the template 'total and deterministic' (their statements: Qxb6002403aFmtTotals.lean).
  GIVEN WITH THE SEED: the statements are not yours to turn. If you find one false, say at which input.
  Laid BY PROGRAM, IN A SANDBOX (cutbox-rows.mjs): the forced cells as the released guide's own fill.sh prints them over the translation f7ee130160038b54… (all of the seat's roots in one cut). By AI agents, Wed Nov 11 2026. No macro, syntax, notation, axiom, sorry.
-/
import Derived.Test.Qxb6002403aFmtChecked
import GoSem.Claim
import GoSem.ClaimJoined
import GoSem.ClaimMapViews
import Derived.JoinedTies
import Derived.KernelRfl
namespace Go.Proofs.Qxb6002403aFmt
/- THE CELL 'sum', in the pinned program and in every row, IS THE sha256 OF THE DUMP (.gsa) THAT Qxb6002403aFmtProg.lean LOADS. Nothing in Lean hashes anything: it is a label: what it is worth is what the hold of that sum in a sandbox is worth. -/
noncomputable def Tryf.pinned : Pinned := { name := "qxb6002403afmt", sum := "f7ee130160038b54890222bcbba99ec40dc126c3dceb3169c9491df2cef3e5b9", checked := Tryf.checked }
namespace Rows
def none {H : Type} : Left H := { results := [], args := [] }

/-- 'zzlaws_internal_engine_g1.FnCheckRetryDaysExactSpec': WHATEVER THE INPUT: true; the input reads as it did. -/
def fnCheckRetryDaysExactSpecSpec : ChangeSpec := { name := "fnCheckRetryDaysExactSpec", fn := fun _ => fun
  | [d] => { results := [.lit (.bool true)], args := [d] }
  | _ => none }
def fnCheckRetryDaysExactSpecRow : OpenClaim := { program := "qxb6002403afmt", sum := "f7ee130160038b54890222bcbba99ec40dc126c3dceb3169c9491df2cef3e5b9", func := "example.com/tenure/tenure/zzlaws_internal_engine_g1.FnCheckRetryDaysExactSpec", spec := "fnCheckRetryDaysExactSpec", stops := ["fmt.errorf"], inPlace := ["fmt.errorf"], apart := false }
/-- NO THEOREM (fmt's text is open here; it may be false): for the released tool's asking of the row's closed facts alone. THE STATEMENT IS 'FnCheckRetryDaysExactSpecToldSaid' (Qxb6002403aFmtCards.lean). -/
def FnCheckRetryDaysExactSpecFormAsk : Prop := fnCheckRetryDaysExactSpecRow.holds Tryf.pinned (OpenSpec.ofChange fnCheckRetryDaysExactSpecSpec)

/-- ITS FALSE NEIGHBOUR: 'it returns false'. Refute it at one input. -/
def fnCheckRetryDaysExactSpecWrong : ChangeSpec := { name := "fnCheckRetryDaysExactSpec", fn := fun _ => fun
  | [d] => { results := [.lit (.bool false)], args := [d] }
  | _ => none }
def FnCheckRetryDaysExactSpecWrongFormAsk : Prop := fnCheckRetryDaysExactSpecRow.holds Tryf.pinned (OpenSpec.ofChange fnCheckRetryDaysExactSpecWrong)

end Rows
end Go.Proofs.Qxb6002403aFmt
