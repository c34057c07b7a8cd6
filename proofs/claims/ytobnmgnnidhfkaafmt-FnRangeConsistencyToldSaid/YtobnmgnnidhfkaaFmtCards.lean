/-
  DERIVED. GIVEN WITH THE SEED: THE CARDS: each row of YtobnmgnnidhfkaaFmtRows.lean that lists a variable, with what it lists TIED to the program's text (the seventh form; the later family's looks); each row that meets fmt, with fmt's text TOLD by the authors' own Lean function (tested against real Go, not proved from fmt's source: count such statements apart). THE CARD IS WHAT COUNTS. Prove the row's statement (the work); the ties are given (YtobnmgnnidhfkaaFmtTie.lean); close each card by the builder's one call (the guide's Derived/Test/ToyasCard.lean, 'card_holds'). Laid BY PROGRAM, IN A SANDBOX (cutbox-door.mjs). By AI agents, Wed Nov 11 2026. No macro, syntax, notation, axiom, sorry.
-/
import Derived.Test.YtobnmgnnidhfkaaFmtRows
import GoSem.ClaimSeven
namespace Go.Proofs.YtobnmgnnidhfkaaFmt
namespace Rows

/-- THE TOLD AND TIED CARD OF 'laws.FnInclusionBeyond'. -/
def fnInclusionBeyondCard : Claim7 := { stood := { row := fnInclusionBeyondRow, standIns := [], harness := (true, "ec3248b476694358dccdf1849e55ec1de82cf91cb0dd8e9ce94e2d7d5cb71893"), looks := true }, told := true, laidByText := true, laidKinds := [.data, .handle], laidTests := true, laidLooks := .later, goes := false }
def FnInclusionBeyondToldSaid : Prop := Claim7.holds Tryf.pinned (.plain (OpenSpec.ofChange fnInclusionBeyondSpec)) fnInclusionBeyondCard
/-- ITS FALSE NEIGHBOUR. Refute it at one input. -/
def FnInclusionBeyondToldWrongFalsely : Prop := Claim7.holds Tryf.pinned (.plain (OpenSpec.ofChange fnInclusionBeyondWrong)) fnInclusionBeyondCard

/-- THE TOLD AND TIED CARD OF 'laws.FnRangeProof'. -/
def fnRangeProofCard : Claim7 := { stood := { row := fnRangeProofRow, standIns := [], harness := (true, "ec3248b476694358dccdf1849e55ec1de82cf91cb0dd8e9ce94e2d7d5cb71893"), looks := true }, told := true, laidByText := true, laidKinds := [.data, .handle], laidTests := true, laidLooks := .later, goes := false }
def FnRangeProofToldSaid : Prop := Claim7.holds Tryf.pinned (.plain (OpenSpec.ofChange fnRangeProofSpec)) fnRangeProofCard
/-- ITS FALSE NEIGHBOUR. Refute it at one input. -/
def FnRangeProofToldWrongFalsely : Prop := Claim7.holds Tryf.pinned (.plain (OpenSpec.ofChange fnRangeProofWrong)) fnRangeProofCard

/-- THE TOLD AND TIED CARD OF 'laws.FnRangeInclusion'. -/
def fnRangeInclusionCard : Claim7 := { stood := { row := fnRangeInclusionRow, standIns := [], harness := (true, "ec3248b476694358dccdf1849e55ec1de82cf91cb0dd8e9ce94e2d7d5cb71893"), looks := true }, told := true, laidByText := true, laidKinds := [.data, .handle], laidTests := true, laidLooks := .later, goes := false }
def FnRangeInclusionToldSaid : Prop := Claim7.holds Tryf.pinned (.plain (OpenSpec.ofChange fnRangeInclusionSpec)) fnRangeInclusionCard
/-- ITS FALSE NEIGHBOUR. Refute it at one input. -/
def FnRangeInclusionToldWrongFalsely : Prop := Claim7.holds Tryf.pinned (.plain (OpenSpec.ofChange fnRangeInclusionWrong)) fnRangeInclusionCard

/-- THE TOLD AND TIED CARD OF 'laws.FnRangeConsistency'. -/
def fnRangeConsistencyCard : Claim7 := { stood := { row := fnRangeConsistencyRow, standIns := [], harness := (true, "ec3248b476694358dccdf1849e55ec1de82cf91cb0dd8e9ce94e2d7d5cb71893"), looks := true }, told := true, laidByText := true, laidKinds := [.data, .handle], laidTests := true, laidLooks := .later, goes := false }
def FnRangeConsistencyToldSaid : Prop := Claim7.holds Tryf.pinned (.plain (OpenSpec.ofChange fnRangeConsistencySpec)) fnRangeConsistencyCard
/-- ITS FALSE NEIGHBOUR. Refute it at one input. -/
def FnRangeConsistencyToldWrongFalsely : Prop := Claim7.holds Tryf.pinned (.plain (OpenSpec.ofChange fnRangeConsistencyWrong)) fnRangeConsistencyCard
end Rows
end Go.Proofs.YtobnmgnnidhfkaaFmt
