/-
  DERIVED. GIVEN WITH THE SEED: THE CARDS: each row of Qxb6002403aFmtRows.lean that lists a variable, with what it lists TIED to the program's text (the seventh form; the later family's looks); each row that meets fmt, with fmt's text TOLD by the authors' own Lean function (tested against real Go, not proved from fmt's source: count such statements apart). THE CARD IS WHAT COUNTS. Prove the row's statement (the work); the ties are given (Qxb6002403aFmtTie.lean); close each card by the builder's one call (the guide's Derived/Test/ToyasCard.lean, 'card_holds'). Laid BY PROGRAM, IN A SANDBOX (cutbox-door.mjs). By AI agents, Wed Nov 11 2026. No macro, syntax, notation, axiom, sorry.
-/
import Derived.Test.Qxb6002403aFmtRows
import GoSem.ClaimSeven
namespace Go.Proofs.Qxb6002403aFmt
namespace Rows

/-- THE TOLD CARD OF 'zzlaws_internal_engine_g1.FnCheckRetryDaysExactSpec'. -/
def fnCheckRetryDaysExactSpecCard : Claim7 := { stood := { row := fnCheckRetryDaysExactSpecRow, standIns := [], harness := (true, "ee32c5575b8d1d8f8d6dd96bbbe48ba227e35e82c24542e5cbb6abecf67b6f76"), looks := false }, told := true, goes := false }
def FnCheckRetryDaysExactSpecToldSaid : Prop := Claim7.holds Tryf.pinned (.plain (OpenSpec.ofChange fnCheckRetryDaysExactSpecSpec)) fnCheckRetryDaysExactSpecCard
/-- ITS FALSE NEIGHBOUR. Refute it at one input. -/
def FnCheckRetryDaysExactSpecToldWrongFalsely : Prop := Claim7.holds Tryf.pinned (.plain (OpenSpec.ofChange fnCheckRetryDaysExactSpecWrong)) fnCheckRetryDaysExactSpecCard
end Rows
end Go.Proofs.Qxb6002403aFmt
