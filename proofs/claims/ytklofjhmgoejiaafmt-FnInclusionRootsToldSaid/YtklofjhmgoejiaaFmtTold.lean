/- The table of math/bits as a told row lists it; a world that holds it; what the builder of a told and tied card asks of the program. -/
import Derived.Test.YtklofjhmgoejiaaFmtCards
import Derived.Test.YtklofjhmgoejiaaFmtTie
import Derived.Test.YtklofjhmgoejiaaFmtOpen
import Derived.Test.YtklofjhmgoejiaaFmtEnter
import Derived.OpenShut
import Derived.Deep.DeepWitnessRowRef
import Derived.Stop.JoinedAt
import Derived.Stop.JoinedTold
import Derived.SevenTiedAt
import Derived.Lib.LaidTab
namespace Go.Proofs.YtklofjhmgoejiaaFmt
open Go.ChangeShapes Go.WideShapes Go.ChangeAt Go.RowKit

theorem stopsAre : Tryf.pinned.checked.prog.stops = ["fmt.errorf"] := by kernel_rfl
theorem stopKnobs : Tryf.pinned.checked.prog.stopKnobs = [] := by kernel_rfl
theorem quiet (os : Os) : Stop.quiet Tryf.pinned.checked.prog os := by
  intro k hk
  rw [stopKnobs] at hk
  cases hk
end Go.Proofs.YtklofjhmgoejiaaFmt
