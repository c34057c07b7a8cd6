/-
  DERIVED. GIVEN WITH THE SEED: THE CARDS: each row of YtklofjhmgoejiaaFmtRows.lean that lists a variable, with what it lists TIED to the program's text (the seventh form; the later family's looks); each row that meets fmt, with fmt's text TOLD by the authors' own Lean function (tested against real Go, not proved from fmt's source: count such statements apart). THE CARD IS WHAT COUNTS. Prove the row's statement (the work); the ties are given (YtklofjhmgoejiaaFmtTie.lean); close each card by the builder's one call (the guide's Derived/Test/ToyasCard.lean, 'card_holds'). Laid BY PROGRAM, IN A SANDBOX (cutbox-door.mjs). By AI agents, Wed Nov 11 2026. No macro, syntax, notation, axiom, sorry.
-/
import Derived.Test.YtklofjhmgoejiaaFmtRows
import GoSem.ClaimSeven
namespace Go.Proofs.YtklofjhmgoejiaaFmt
namespace Rows

/-- THE TOLD AND TIED CARD OF 'laws.FnExactVerifyInclusion'. -/
def fnExactVerifyInclusionCard : Claim7 := { stood := { row := fnExactVerifyInclusionRow, standIns := [], harness := (true, "bf2c823cd2d9f413608ba2aab4408f18289af140f895e05bbeafa45cc81eb92b"), looks := true }, told := true, laidByText := true, laidKinds := [.handle], laidTests := true, laidLooks := .later, goes := false }
def FnExactVerifyInclusionToldSaid : Prop := Claim7.holds Tryf.pinned (.plain (OpenSpec.ofChange fnExactVerifyInclusionSpec)) fnExactVerifyInclusionCard
/-- ITS FALSE NEIGHBOUR. Refute it at one input. -/
def FnExactVerifyInclusionToldWrongFalsely : Prop := Claim7.holds Tryf.pinned (.plain (OpenSpec.ofChange fnExactVerifyInclusionWrong)) fnExactVerifyInclusionCard

/-- THE TOLD AND TIED CARD OF 'laws.FnInclusionComplete'. -/
def fnInclusionCompleteCard : Claim7 := { stood := { row := fnInclusionCompleteRow, standIns := [], harness := (true, "bf2c823cd2d9f413608ba2aab4408f18289af140f895e05bbeafa45cc81eb92b"), looks := true }, told := true, laidByText := true, laidKinds := [.handle], laidTests := true, laidLooks := .later, goes := false }
def FnInclusionCompleteToldSaid : Prop := Claim7.holds Tryf.pinned (.plain (OpenSpec.ofChange fnInclusionCompleteSpec)) fnInclusionCompleteCard
/-- ITS FALSE NEIGHBOUR. Refute it at one input. -/
def FnInclusionCompleteToldWrongFalsely : Prop := Claim7.holds Tryf.pinned (.plain (OpenSpec.ofChange fnInclusionCompleteWrong)) fnInclusionCompleteCard

/-- THE TOLD AND TIED CARD OF 'laws.FnInclusionSound'. -/
def fnInclusionSoundCard : Claim7 := { stood := { row := fnInclusionSoundRow, standIns := [], harness := (true, "bf2c823cd2d9f413608ba2aab4408f18289af140f895e05bbeafa45cc81eb92b"), looks := true }, told := true, laidByText := true, laidKinds := [.handle], laidTests := true, laidLooks := .later, goes := false }
def FnInclusionSoundToldSaid : Prop := Claim7.holds Tryf.pinned (.plain (OpenSpec.ofChange fnInclusionSoundSpec)) fnInclusionSoundCard
/-- ITS FALSE NEIGHBOUR. Refute it at one input. -/
def FnInclusionSoundToldWrongFalsely : Prop := Claim7.holds Tryf.pinned (.plain (OpenSpec.ofChange fnInclusionSoundWrong)) fnInclusionSoundCard

/-- THE TOLD AND TIED CARD OF 'laws.FnVerifyInclusionLength'. -/
def fnVerifyInclusionLengthCard : Claim7 := { stood := { row := fnVerifyInclusionLengthRow, standIns := [], harness := (true, "bf2c823cd2d9f413608ba2aab4408f18289af140f895e05bbeafa45cc81eb92b"), looks := true }, told := true, laidByText := true, laidKinds := [.handle], laidTests := true, laidLooks := .later, goes := false }
def FnVerifyInclusionLengthToldSaid : Prop := Claim7.holds Tryf.pinned (.plain (OpenSpec.ofChange fnVerifyInclusionLengthSpec)) fnVerifyInclusionLengthCard
/-- ITS FALSE NEIGHBOUR. Refute it at one input. -/
def FnVerifyInclusionLengthToldWrongFalsely : Prop := Claim7.holds Tryf.pinned (.plain (OpenSpec.ofChange fnVerifyInclusionLengthWrong)) fnVerifyInclusionLengthCard

/-- THE TOLD AND TIED CARD OF 'laws.FnVerifyInclusionMismatch'. -/
def fnVerifyInclusionMismatchCard : Claim7 := { stood := { row := fnVerifyInclusionMismatchRow, standIns := [], harness := (true, "bf2c823cd2d9f413608ba2aab4408f18289af140f895e05bbeafa45cc81eb92b"), looks := true }, told := true, laidByText := true, laidKinds := [.handle], laidTests := true, laidLooks := .later, goes := false }
def FnVerifyInclusionMismatchToldSaid : Prop := Claim7.holds Tryf.pinned (.plain (OpenSpec.ofChange fnVerifyInclusionMismatchSpec)) fnVerifyInclusionMismatchCard
/-- ITS FALSE NEIGHBOUR. Refute it at one input. -/
def FnVerifyInclusionMismatchToldWrongFalsely : Prop := Claim7.holds Tryf.pinned (.plain (OpenSpec.ofChange fnVerifyInclusionMismatchWrong)) fnVerifyInclusionMismatchCard

/-- THE TOLD AND TIED CARD OF 'laws.FnExactRootFromInclusionProof'. -/
def fnExactRootFromInclusionProofCard : Claim7 := { stood := { row := fnExactRootFromInclusionProofRow, standIns := [], harness := (true, "bf2c823cd2d9f413608ba2aab4408f18289af140f895e05bbeafa45cc81eb92b"), looks := true }, told := true, laidByText := true, laidKinds := [.handle], laidTests := true, laidLooks := .later, goes := false }
def FnExactRootFromInclusionProofToldSaid : Prop := Claim7.holds Tryf.pinned (.plain (OpenSpec.ofChange fnExactRootFromInclusionProofSpec)) fnExactRootFromInclusionProofCard
/-- ITS FALSE NEIGHBOUR. Refute it at one input. -/
def FnExactRootFromInclusionProofToldWrongFalsely : Prop := Claim7.holds Tryf.pinned (.plain (OpenSpec.ofChange fnExactRootFromInclusionProofWrong)) fnExactRootFromInclusionProofCard

/-- THE TOLD AND TIED CARD OF 'laws.FnInclusionLeaf'. -/
def fnInclusionLeafCard : Claim7 := { stood := { row := fnInclusionLeafRow, standIns := [], harness := (true, "bf2c823cd2d9f413608ba2aab4408f18289af140f895e05bbeafa45cc81eb92b"), looks := true }, told := true, laidByText := true, laidKinds := [.handle], laidTests := true, laidLooks := .later, goes := false }
def FnInclusionLeafToldSaid : Prop := Claim7.holds Tryf.pinned (.plain (OpenSpec.ofChange fnInclusionLeafSpec)) fnInclusionLeafCard
/-- ITS FALSE NEIGHBOUR. Refute it at one input. -/
def FnInclusionLeafToldWrongFalsely : Prop := Claim7.holds Tryf.pinned (.plain (OpenSpec.ofChange fnInclusionLeafWrong)) fnInclusionLeafCard

/-- THE TOLD AND TIED CARD OF 'laws.FnInclusionOne'. -/
def fnInclusionOneCard : Claim7 := { stood := { row := fnInclusionOneRow, standIns := [], harness := (true, "bf2c823cd2d9f413608ba2aab4408f18289af140f895e05bbeafa45cc81eb92b"), looks := true }, told := true, laidByText := true, laidKinds := [.handle], laidTests := true, laidLooks := .later, goes := false }
def FnInclusionOneToldSaid : Prop := Claim7.holds Tryf.pinned (.plain (OpenSpec.ofChange fnInclusionOneSpec)) fnInclusionOneCard
/-- ITS FALSE NEIGHBOUR. Refute it at one input. -/
def FnInclusionOneToldWrongFalsely : Prop := Claim7.holds Tryf.pinned (.plain (OpenSpec.ofChange fnInclusionOneWrong)) fnInclusionOneCard

/-- THE TOLD AND TIED CARD OF 'laws.FnInclusionRoots'. -/
def fnInclusionRootsCard : Claim7 := { stood := { row := fnInclusionRootsRow, standIns := [], harness := (true, "bf2c823cd2d9f413608ba2aab4408f18289af140f895e05bbeafa45cc81eb92b"), looks := true }, told := true, laidByText := true, laidKinds := [.handle], laidTests := true, laidLooks := .later, goes := false }
def FnInclusionRootsToldSaid : Prop := Claim7.holds Tryf.pinned (.plain (OpenSpec.ofChange fnInclusionRootsSpec)) fnInclusionRootsCard
/-- ITS FALSE NEIGHBOUR. Refute it at one input. -/
def FnInclusionRootsToldWrongFalsely : Prop := Claim7.holds Tryf.pinned (.plain (OpenSpec.ofChange fnInclusionRootsWrong)) fnInclusionRootsCard
end Rows
end Go.Proofs.YtklofjhmgoejiaaFmt
