/-
  DERIVED. GIVEN WITH THE SEED: THE CARDS: each row of YtpdmmmcelkinjaaFmtRows.lean that lists a variable, with what it lists TIED to the program's text (the seventh form; the later family's looks); each row that meets fmt, with fmt's text TOLD by the authors' own Lean function (tested against real Go, not proved from fmt's source: count such statements apart). THE CARD IS WHAT COUNTS. Prove the row's statement (the work); the ties are given (YtpdmmmcelkinjaaFmtTie.lean); close each card by the builder's one call (the guide's Derived/Test/ToyasCard.lean, 'card_holds'). Laid BY PROGRAM, IN A SANDBOX (cutbox-door.mjs). By AI agents, Wed Nov 11 2026. No macro, syntax, notation, axiom, sorry.
-/
import Derived.Test.YtpdmmmcelkinjaaFmtRows
import GoSem.ClaimSeven
namespace Go.Proofs.YtpdmmmcelkinjaaFmt
namespace Rows

/-- THE TOLD AND TIED CARD OF 'laws.FnNewRangeRoot'. -/
def fnNewRangeRootCard : Claim7 := { stood := { row := fnNewRangeRootRow, standIns := [], harness := (true, "59a2f2c36e365c9e98dc19024e839dc8c4c163c782799f82eba7df895de4505b"), looks := false }, told := true, laidByText := true, laidKinds := [.data], laidTests := true, laidLooks := .later, goes := false }
def FnNewRangeRootToldSaid : Prop := Claim7.holds Tryf.pinned (.plain (OpenSpec.ofChange fnNewRangeRootSpec)) fnNewRangeRootCard
/-- ITS FALSE NEIGHBOUR. Refute it at one input. -/
def FnNewRangeRootToldWrongFalsely : Prop := Claim7.holds Tryf.pinned (.plain (OpenSpec.ofChange fnNewRangeRootWrong)) fnNewRangeRootCard

/-- THE TOLD AND TIED CARD OF 'laws.FnExactNewRange'. -/
def fnExactNewRangeCard : Claim7 := { stood := { row := fnExactNewRangeRow, standIns := [], harness := (true, "59a2f2c36e365c9e98dc19024e839dc8c4c163c782799f82eba7df895de4505b"), looks := false }, told := true, laidByText := true, laidKinds := [.data], laidTests := true, laidLooks := .later, goes := false }
def FnExactNewRangeToldSaid : Prop := Claim7.holds Tryf.pinned (.plain (OpenSpec.ofChange fnExactNewRangeSpec)) fnExactNewRangeCard
/-- ITS FALSE NEIGHBOUR. Refute it at one input. -/
def FnExactNewRangeToldWrongFalsely : Prop := Claim7.holds Tryf.pinned (.plain (OpenSpec.ofChange fnExactNewRangeWrong)) fnExactNewRangeCard

/-- THE TOLD AND TIED CARD OF 'laws.FnAppendEdgeAll'. -/
def fnAppendEdgeAllCard : Claim7 := { stood := { row := fnAppendEdgeAllRow, standIns := [], harness := (true, "59a2f2c36e365c9e98dc19024e839dc8c4c163c782799f82eba7df895de4505b"), looks := false }, told := true, laidByText := true, laidKinds := [.data], laidTests := true, laidLooks := .later, goes := false }
def FnAppendEdgeAllToldSaid : Prop := Claim7.holds Tryf.pinned (.plain (OpenSpec.ofChange fnAppendEdgeAllSpec)) fnAppendEdgeAllCard
/-- ITS FALSE NEIGHBOUR. Refute it at one input. -/
def FnAppendEdgeAllToldWrongFalsely : Prop := Claim7.holds Tryf.pinned (.plain (OpenSpec.ofChange fnAppendEdgeAllWrong)) fnAppendEdgeAllCard

/-- THE TOLD AND TIED CARD OF 'laws.FnAppendRoot'. -/
def fnAppendRootCard : Claim7 := { stood := { row := fnAppendRootRow, standIns := [], harness := (true, "59a2f2c36e365c9e98dc19024e839dc8c4c163c782799f82eba7df895de4505b"), looks := false }, told := true, laidByText := true, laidKinds := [.data], laidTests := true, laidLooks := .later, goes := false }
def FnAppendRootToldSaid : Prop := Claim7.holds Tryf.pinned (.plain (OpenSpec.ofChange fnAppendRootSpec)) fnAppendRootCard
/-- ITS FALSE NEIGHBOUR. Refute it at one input. -/
def FnAppendRootToldWrongFalsely : Prop := Claim7.holds Tryf.pinned (.plain (OpenSpec.ofChange fnAppendRootWrong)) fnAppendRootCard

/-- THE TOLD AND TIED CARD OF 'laws.FnAppendGrown'. -/
def fnAppendGrownCard : Claim7 := { stood := { row := fnAppendGrownRow, standIns := [], harness := (true, "59a2f2c36e365c9e98dc19024e839dc8c4c163c782799f82eba7df895de4505b"), looks := false }, told := true, laidByText := true, laidKinds := [.data], laidTests := true, laidLooks := .later, goes := false }
def FnAppendGrownToldSaid : Prop := Claim7.holds Tryf.pinned (.plain (OpenSpec.ofChange fnAppendGrownSpec)) fnAppendGrownCard
/-- ITS FALSE NEIGHBOUR. Refute it at one input. -/
def FnAppendGrownToldWrongFalsely : Prop := Claim7.holds Tryf.pinned (.plain (OpenSpec.ofChange fnAppendGrownWrong)) fnAppendGrownCard

/-- THE TOLD AND TIED CARD OF 'laws.FnAppendNoRoot'. -/
def fnAppendNoRootCard : Claim7 := { stood := { row := fnAppendNoRootRow, standIns := [], harness := (true, "59a2f2c36e365c9e98dc19024e839dc8c4c163c782799f82eba7df895de4505b"), looks := false }, told := true, laidByText := true, laidKinds := [.data], laidTests := true, laidLooks := .later, goes := false }
def FnAppendNoRootToldSaid : Prop := Claim7.holds Tryf.pinned (.plain (OpenSpec.ofChange fnAppendNoRootSpec)) fnAppendNoRootCard
/-- ITS FALSE NEIGHBOUR. Refute it at one input. -/
def FnAppendNoRootToldWrongFalsely : Prop := Claim7.holds Tryf.pinned (.plain (OpenSpec.ofChange fnAppendNoRootWrong)) fnAppendNoRootCard

/-- THE TOLD AND TIED CARD OF 'laws.FnExactAppend'. -/
def fnExactAppendCard : Claim7 := { stood := { row := fnExactAppendRow, standIns := [], harness := (true, "59a2f2c36e365c9e98dc19024e839dc8c4c163c782799f82eba7df895de4505b"), looks := false }, told := true, laidByText := true, laidKinds := [.data], laidTests := true, laidLooks := .later, goes := false }
def FnExactAppendToldSaid : Prop := Claim7.holds Tryf.pinned (.plain (OpenSpec.ofChange fnExactAppendSpec)) fnExactAppendCard
/-- ITS FALSE NEIGHBOUR. Refute it at one input. -/
def FnExactAppendToldWrongFalsely : Prop := Claim7.holds Tryf.pinned (.plain (OpenSpec.ofChange fnExactAppendWrong)) fnExactAppendCard

/-- THE TOLD AND TIED CARD OF 'laws.FnAppendEdge'. -/
def fnAppendEdgeCard : Claim7 := { stood := { row := fnAppendEdgeRow, standIns := [], harness := (true, "59a2f2c36e365c9e98dc19024e839dc8c4c163c782799f82eba7df895de4505b"), looks := false }, told := true, laidByText := true, laidKinds := [.data], laidTests := true, laidLooks := .later, goes := false }
def FnAppendEdgeToldSaid : Prop := Claim7.holds Tryf.pinned (.plain (OpenSpec.ofChange fnAppendEdgeSpec)) fnAppendEdgeCard
/-- ITS FALSE NEIGHBOUR. Refute it at one input. -/
def FnAppendEdgeToldWrongFalsely : Prop := Claim7.holds Tryf.pinned (.plain (OpenSpec.ofChange fnAppendEdgeWrong)) fnAppendEdgeCard

/-- THE TOLD AND TIED CARD OF 'laws.FnAppendRangeGrown'. -/
def fnAppendRangeGrownCard : Claim7 := { stood := { row := fnAppendRangeGrownRow, standIns := [], harness := (true, "59a2f2c36e365c9e98dc19024e839dc8c4c163c782799f82eba7df895de4505b"), looks := false }, told := true, laidByText := true, laidKinds := [.data], laidTests := true, laidLooks := .later, goes := false }
def FnAppendRangeGrownToldSaid : Prop := Claim7.holds Tryf.pinned (.plain (OpenSpec.ofChange fnAppendRangeGrownSpec)) fnAppendRangeGrownCard
/-- ITS FALSE NEIGHBOUR. Refute it at one input. -/
def FnAppendRangeGrownToldWrongFalsely : Prop := Claim7.holds Tryf.pinned (.plain (OpenSpec.ofChange fnAppendRangeGrownWrong)) fnAppendRangeGrownCard

/-- THE TOLD AND TIED CARD OF 'laws.FnExactAppendRange'. -/
def fnExactAppendRangeCard : Claim7 := { stood := { row := fnExactAppendRangeRow, standIns := [], harness := (true, "59a2f2c36e365c9e98dc19024e839dc8c4c163c782799f82eba7df895de4505b"), looks := false }, told := true, laidByText := true, laidKinds := [.data], laidTests := true, laidLooks := .later, goes := false }
def FnExactAppendRangeToldSaid : Prop := Claim7.holds Tryf.pinned (.plain (OpenSpec.ofChange fnExactAppendRangeSpec)) fnExactAppendRangeCard
/-- ITS FALSE NEIGHBOUR. Refute it at one input. -/
def FnExactAppendRangeToldWrongFalsely : Prop := Claim7.holds Tryf.pinned (.plain (OpenSpec.ofChange fnExactAppendRangeWrong)) fnExactAppendRangeCard

/-- THE TOLD AND TIED CARD OF 'laws.FnAppendMaker'. -/
def fnAppendMakerCard : Claim7 := { stood := { row := fnAppendMakerRow, standIns := [], harness := (true, "59a2f2c36e365c9e98dc19024e839dc8c4c163c782799f82eba7df895de4505b"), looks := false }, told := true, laidByText := true, laidKinds := [.data], laidTests := true, laidLooks := .later, goes := false }
def FnAppendMakerToldSaid : Prop := Claim7.holds Tryf.pinned (.plain (OpenSpec.ofChange fnAppendMakerSpec)) fnAppendMakerCard
/-- ITS FALSE NEIGHBOUR. Refute it at one input. -/
def FnAppendMakerToldWrongFalsely : Prop := Claim7.holds Tryf.pinned (.plain (OpenSpec.ofChange fnAppendMakerWrong)) fnAppendMakerCard
end Rows
end Go.Proofs.YtpdmmmcelkinjaaFmt
