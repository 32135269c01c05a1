/- The closed facts of this seat that every card wants. -/
import Derived.Test.Qxb6002376aFmtCards
import Derived.Test.Qxb6002376aFmtFacts
import Derived.ProofKit
import Derived.Stop.JoinedAt
import Derived.Stop.JoinedTold
import Derived.SevenToldRow
import Derived.SizedLaws
namespace Go.Proofs.Qxb6002376aFmt
open Go.ChangeShapes Go.WideShapes Go.ChangeAt Go.RowKit Go.Kit
open Go.Extern.Stop Go.Stop Go.Extern

theorem seat_own : ownKnob Tryf.prog.godebug = none := by kernel_rfl
theorem seat_laidOut : laidOutB Tryf.pinned.checked.prog = true := by kernel_rfl
theorem seat_stops : Tryf.pinned.checked.prog.stops = ["fmt.errorf", "fmt.Sprintf"] := by kernel_rfl
theorem seat_stopKnobs : Tryf.pinned.checked.prog.stopKnobs = [] := by kernel_rfl
theorem seat_quiet (os : Os) : Stop.quiet Tryf.pinned.checked.prog os := by
  intro k hk
  rw [seat_stopKnobs] at hk
  cases hk
end Go.Proofs.Qxb6002376aFmt
