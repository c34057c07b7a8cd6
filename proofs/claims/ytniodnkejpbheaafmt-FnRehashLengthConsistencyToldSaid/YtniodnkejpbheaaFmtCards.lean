/-
  DERIVED. GIVEN WITH THE SEED: THE CARDS: each row of YtniodnkejpbheaaFmtRows.lean that lists a variable, with what it lists TIED to the program's text (the seventh form; the later family's looks); each row that meets fmt, with fmt's text TOLD by the authors' own Lean function (tested against real Go, not proved from fmt's source: count such statements apart). THE CARD IS WHAT COUNTS. Prove the row's statement (the work); the ties are given (YtniodnkejpbheaaFmtTie.lean); close each card by the builder's one call (the guide's Derived/Test/ToyasCard.lean, 'card_holds'). Laid BY PROGRAM, IN A SANDBOX (cutbox-door.mjs). By AI agents, Wed Nov 11 2026. No macro, syntax, notation, axiom, sorry.
-/
import Derived.Test.YtniodnkejpbheaaFmtRows
import GoSem.ClaimSeven
namespace Go.Proofs.YtniodnkejpbheaaFmt
namespace Rows

/-- THE TOLD AND TIED CARD OF 'laws.FnInclusionEphem'. -/
def fnInclusionEphemCard : Claim7 := { stood := { row := fnInclusionEphemRow, standIns := [], harness := (true, "acb802cdc2ab01a4ed8d5600b6ada9f6271092abcf2cc751461d2ac711c1202d"), looks := true }, told := true, laidByText := true, laidKinds := [.data], laidTests := true, laidLooks := .later, goes := false }
def FnInclusionEphemToldSaid : Prop := Claim7.holds Tryf.pinned (.plain (OpenSpec.ofChange fnInclusionEphemSpec)) fnInclusionEphemCard
/-- ITS FALSE NEIGHBOUR. Refute it at one input. -/
def FnInclusionEphemToldWrongFalsely : Prop := Claim7.holds Tryf.pinned (.plain (OpenSpec.ofChange fnInclusionEphemWrong)) fnInclusionEphemCard

/-- THE TOLD AND TIED CARD OF 'laws.FnInclusionNodes'. -/
def fnInclusionNodesCard : Claim7 := { stood := { row := fnInclusionNodesRow, standIns := [], harness := (true, "acb802cdc2ab01a4ed8d5600b6ada9f6271092abcf2cc751461d2ac711c1202d"), looks := true }, told := true, laidByText := true, laidKinds := [.data], laidTests := true, laidLooks := .later, goes := false }
def FnInclusionNodesToldSaid : Prop := Claim7.holds Tryf.pinned (.plain (OpenSpec.ofChange fnInclusionNodesSpec)) fnInclusionNodesCard
/-- ITS FALSE NEIGHBOUR. Refute it at one input. -/
def FnInclusionNodesToldWrongFalsely : Prop := Claim7.holds Tryf.pinned (.plain (OpenSpec.ofChange fnInclusionNodesWrong)) fnInclusionNodesCard

/-- THE TOLD AND TIED CARD OF 'laws.FnInclusionPerfect'. -/
def fnInclusionPerfectCard : Claim7 := { stood := { row := fnInclusionPerfectRow, standIns := [], harness := (true, "acb802cdc2ab01a4ed8d5600b6ada9f6271092abcf2cc751461d2ac711c1202d"), looks := true }, told := true, laidByText := true, laidKinds := [.data], laidTests := true, laidLooks := .later, goes := false }
def FnInclusionPerfectToldSaid : Prop := Claim7.holds Tryf.pinned (.plain (OpenSpec.ofChange fnInclusionPerfectSpec)) fnInclusionPerfectCard
/-- ITS FALSE NEIGHBOUR. Refute it at one input. -/
def FnInclusionPerfectToldWrongFalsely : Prop := Claim7.holds Tryf.pinned (.plain (OpenSpec.ofChange fnInclusionPerfectWrong)) fnInclusionPerfectCard

/-- THE TOLD AND TIED CARD OF 'laws.FnInclusionOther'. -/
def fnInclusionOtherCard : Claim7 := { stood := { row := fnInclusionOtherRow, standIns := [], harness := (true, "acb802cdc2ab01a4ed8d5600b6ada9f6271092abcf2cc751461d2ac711c1202d"), looks := true }, told := true, laidByText := true, laidKinds := [.data], laidTests := true, laidLooks := .later, goes := false }
def FnInclusionOtherToldSaid : Prop := Claim7.holds Tryf.pinned (.plain (OpenSpec.ofChange fnInclusionOtherSpec)) fnInclusionOtherCard
/-- ITS FALSE NEIGHBOUR. Refute it at one input. -/
def FnInclusionOtherToldWrongFalsely : Prop := Claim7.holds Tryf.pinned (.plain (OpenSpec.ofChange fnInclusionOtherWrong)) fnInclusionOtherCard

/-- THE TOLD AND TIED CARD OF 'laws.FnConsistencyEphem'. -/
def fnConsistencyEphemCard : Claim7 := { stood := { row := fnConsistencyEphemRow, standIns := [], harness := (true, "acb802cdc2ab01a4ed8d5600b6ada9f6271092abcf2cc751461d2ac711c1202d"), looks := true }, told := true, laidByText := true, laidKinds := [.data], laidTests := true, laidLooks := .later, goes := false }
def FnConsistencyEphemToldSaid : Prop := Claim7.holds Tryf.pinned (.plain (OpenSpec.ofChange fnConsistencyEphemSpec)) fnConsistencyEphemCard
/-- ITS FALSE NEIGHBOUR. Refute it at one input. -/
def FnConsistencyEphemToldWrongFalsely : Prop := Claim7.holds Tryf.pinned (.plain (OpenSpec.ofChange fnConsistencyEphemWrong)) fnConsistencyEphemCard

/-- THE TOLD AND TIED CARD OF 'laws.FnConsistencyEqual'. -/
def fnConsistencyEqualCard : Claim7 := { stood := { row := fnConsistencyEqualRow, standIns := [], harness := (true, "acb802cdc2ab01a4ed8d5600b6ada9f6271092abcf2cc751461d2ac711c1202d"), looks := true }, told := true, laidByText := true, laidKinds := [.data], laidTests := true, laidLooks := .later, goes := false }
def FnConsistencyEqualToldSaid : Prop := Claim7.holds Tryf.pinned (.plain (OpenSpec.ofChange fnConsistencyEqualSpec)) fnConsistencyEqualCard
/-- ITS FALSE NEIGHBOUR. Refute it at one input. -/
def FnConsistencyEqualToldWrongFalsely : Prop := Claim7.holds Tryf.pinned (.plain (OpenSpec.ofChange fnConsistencyEqualWrong)) fnConsistencyEqualCard

/-- THE TOLD AND TIED CARD OF 'laws.FnConsistencyNodes'. -/
def fnConsistencyNodesCard : Claim7 := { stood := { row := fnConsistencyNodesRow, standIns := [], harness := (true, "acb802cdc2ab01a4ed8d5600b6ada9f6271092abcf2cc751461d2ac711c1202d"), looks := true }, told := true, laidByText := true, laidKinds := [.data], laidTests := true, laidLooks := .later, goes := false }
def FnConsistencyNodesToldSaid : Prop := Claim7.holds Tryf.pinned (.plain (OpenSpec.ofChange fnConsistencyNodesSpec)) fnConsistencyNodesCard
/-- ITS FALSE NEIGHBOUR. Refute it at one input. -/
def FnConsistencyNodesToldWrongFalsely : Prop := Claim7.holds Tryf.pinned (.plain (OpenSpec.ofChange fnConsistencyNodesWrong)) fnConsistencyNodesCard

/-- THE TOLD AND TIED CARD OF 'laws.FnInclusionRehash'. -/
def fnInclusionRehashCard : Claim7 := { stood := { row := fnInclusionRehashRow, standIns := [], harness := (true, "acb802cdc2ab01a4ed8d5600b6ada9f6271092abcf2cc751461d2ac711c1202d"), looks := true }, told := true, laidByText := true, laidKinds := [.data, .handle], laidTests := true, laidLooks := .later, goes := false }
def FnInclusionRehashToldSaid : Prop := Claim7.holds Tryf.pinned (.plain (OpenSpec.ofChange fnInclusionRehashSpec)) fnInclusionRehashCard
/-- ITS FALSE NEIGHBOUR. Refute it at one input. -/
def FnInclusionRehashToldWrongFalsely : Prop := Claim7.holds Tryf.pinned (.plain (OpenSpec.ofChange fnInclusionRehashWrong)) fnInclusionRehashCard

/-- THE TOLD AND TIED CARD OF 'laws.FnRehashCount'. -/
def fnRehashCountCard : Claim7 := { stood := { row := fnRehashCountRow, standIns := [], harness := (true, "acb802cdc2ab01a4ed8d5600b6ada9f6271092abcf2cc751461d2ac711c1202d"), looks := true }, told := true, laidByText := true, laidKinds := [.data, .handle], laidTests := true, laidLooks := .later, goes := false }
def FnRehashCountToldSaid : Prop := Claim7.holds Tryf.pinned (.plain (OpenSpec.ofChange fnRehashCountSpec)) fnRehashCountCard
/-- ITS FALSE NEIGHBOUR. Refute it at one input. -/
def FnRehashCountToldWrongFalsely : Prop := Claim7.holds Tryf.pinned (.plain (OpenSpec.ofChange fnRehashCountWrong)) fnRehashCountCard

/-- THE TOLD AND TIED CARD OF 'laws.FnRehashLength'. -/
def fnRehashLengthCard : Claim7 := { stood := { row := fnRehashLengthRow, standIns := [], harness := (true, "acb802cdc2ab01a4ed8d5600b6ada9f6271092abcf2cc751461d2ac711c1202d"), looks := true }, told := true, laidByText := true, laidKinds := [.data, .handle], laidTests := true, laidLooks := .later, goes := false }
def FnRehashLengthToldSaid : Prop := Claim7.holds Tryf.pinned (.plain (OpenSpec.ofChange fnRehashLengthSpec)) fnRehashLengthCard
/-- ITS FALSE NEIGHBOUR. Refute it at one input. -/
def FnRehashLengthToldWrongFalsely : Prop := Claim7.holds Tryf.pinned (.plain (OpenSpec.ofChange fnRehashLengthWrong)) fnRehashLengthCard

/-- THE TOLD AND TIED CARD OF 'laws.FnConsistencyRehash'. -/
def fnConsistencyRehashCard : Claim7 := { stood := { row := fnConsistencyRehashRow, standIns := [], harness := (true, "acb802cdc2ab01a4ed8d5600b6ada9f6271092abcf2cc751461d2ac711c1202d"), looks := true }, told := true, laidByText := true, laidKinds := [.data, .handle], laidTests := true, laidLooks := .later, goes := false }
def FnConsistencyRehashToldSaid : Prop := Claim7.holds Tryf.pinned (.plain (OpenSpec.ofChange fnConsistencyRehashSpec)) fnConsistencyRehashCard
/-- ITS FALSE NEIGHBOUR. Refute it at one input. -/
def FnConsistencyRehashToldWrongFalsely : Prop := Claim7.holds Tryf.pinned (.plain (OpenSpec.ofChange fnConsistencyRehashWrong)) fnConsistencyRehashCard

/-- THE TOLD AND TIED CARD OF 'laws.FnRehashLengthConsistency'. -/
def fnRehashLengthConsistencyCard : Claim7 := { stood := { row := fnRehashLengthConsistencyRow, standIns := [], harness := (true, "acb802cdc2ab01a4ed8d5600b6ada9f6271092abcf2cc751461d2ac711c1202d"), looks := true }, told := true, laidByText := true, laidKinds := [.data, .handle], laidTests := true, laidLooks := .later, goes := false }
def FnRehashLengthConsistencyToldSaid : Prop := Claim7.holds Tryf.pinned (.plain (OpenSpec.ofChange fnRehashLengthConsistencySpec)) fnRehashLengthConsistencyCard
/-- ITS FALSE NEIGHBOUR. Refute it at one input. -/
def FnRehashLengthConsistencyToldWrongFalsely : Prop := Claim7.holds Tryf.pinned (.plain (OpenSpec.ofChange fnRehashLengthConsistencyWrong)) fnRehashLengthConsistencyCard
end Rows
end Go.Proofs.YtniodnkejpbheaaFmt
