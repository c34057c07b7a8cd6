/-
  DERIVED. GIVEN WITH THE SEED: THE CARDS: each row of YteilafhajhbdaaaFmtRows.lean that lists a variable, with what it lists TIED to the program's text (the seventh form; the later family's looks); each row that meets fmt, with fmt's text TOLD by the authors' own Lean function (tested against real Go, not proved from fmt's source: count such statements apart). THE CARD IS WHAT COUNTS. Prove the row's statement (the work); the ties are given (YteilafhajhbdaaaFmtTie.lean); close each card by the builder's one call (the guide's Derived/Test/ToyasCard.lean, 'card_holds'). Laid BY PROGRAM, IN A SANDBOX (cutbox-door.mjs). By AI agents, Wed Nov 11 2026. No macro, syntax, notation, axiom, sorry.
-/
import Derived.Test.YteilafhajhbdaaaFmtRows
import GoSem.ClaimSeven
namespace Go.Proofs.YteilafhajhbdaaaFmt
namespace Rows

/-- THE TOLD AND TIED CARD OF 'laws.FnConsistencyComplete'. -/
def fnConsistencyCompleteCard : Claim7 := { stood := { row := fnConsistencyCompleteRow, standIns := [], harness := (true, "c68155e156a87802457f97d91f0d66abe41f29b68eed00c1f584d800aa52b544"), looks := true }, told := true, laidByText := true, laidKinds := [.data, .handle], laidTests := true, laidLooks := .later, goes := false }
def FnConsistencyCompleteToldSaid : Prop := Claim7.holds Tryf.pinned (.plain (OpenSpec.ofChange fnConsistencyCompleteSpec)) fnConsistencyCompleteCard
/-- ITS FALSE NEIGHBOUR. Refute it at one input. -/
def FnConsistencyCompleteToldWrongFalsely : Prop := Claim7.holds Tryf.pinned (.plain (OpenSpec.ofChange fnConsistencyCompleteWrong)) fnConsistencyCompleteCard

/-- THE TOLD AND TIED CARD OF 'laws.FnConsistencyPrefix'. -/
def fnConsistencyPrefixCard : Claim7 := { stood := { row := fnConsistencyPrefixRow, standIns := [], harness := (true, "c68155e156a87802457f97d91f0d66abe41f29b68eed00c1f584d800aa52b544"), looks := true }, told := true, laidByText := true, laidKinds := [.data, .handle], laidTests := true, laidLooks := .later, goes := false }
def FnConsistencyPrefixToldSaid : Prop := Claim7.holds Tryf.pinned (.plain (OpenSpec.ofChange fnConsistencyPrefixSpec)) fnConsistencyPrefixCard
/-- ITS FALSE NEIGHBOUR. Refute it at one input. -/
def FnConsistencyPrefixToldWrongFalsely : Prop := Claim7.holds Tryf.pinned (.plain (OpenSpec.ofChange fnConsistencyPrefixWrong)) fnConsistencyPrefixCard

/-- THE TOLD AND TIED CARD OF 'laws.FnConsistencySame'. -/
def fnConsistencySameCard : Claim7 := { stood := { row := fnConsistencySameRow, standIns := [], harness := (true, "c68155e156a87802457f97d91f0d66abe41f29b68eed00c1f584d800aa52b544"), looks := true }, told := true, laidByText := true, laidKinds := [.data, .handle], laidTests := true, laidLooks := .later, goes := false }
def FnConsistencySameToldSaid : Prop := Claim7.holds Tryf.pinned (.plain (OpenSpec.ofChange fnConsistencySameSpec)) fnConsistencySameCard
/-- ITS FALSE NEIGHBOUR. Refute it at one input. -/
def FnConsistencySameToldWrongFalsely : Prop := Claim7.holds Tryf.pinned (.plain (OpenSpec.ofChange fnConsistencySameWrong)) fnConsistencySameCard

/-- THE TOLD AND TIED CARD OF 'laws.FnExactVerifyConsistency'. -/
def fnExactVerifyConsistencyCard : Claim7 := { stood := { row := fnExactVerifyConsistencyRow, standIns := [], harness := (true, "c68155e156a87802457f97d91f0d66abe41f29b68eed00c1f584d800aa52b544"), looks := true }, told := true, laidByText := true, laidKinds := [.data, .handle], laidTests := true, laidLooks := .later, goes := false }
def FnExactVerifyConsistencyToldSaid : Prop := Claim7.holds Tryf.pinned (.plain (OpenSpec.ofChange fnExactVerifyConsistencySpec)) fnExactVerifyConsistencyCard
/-- ITS FALSE NEIGHBOUR. Refute it at one input. -/
def FnExactVerifyConsistencyToldWrongFalsely : Prop := Claim7.holds Tryf.pinned (.plain (OpenSpec.ofChange fnExactVerifyConsistencyWrong)) fnExactVerifyConsistencyCard

/-- THE TOLD AND TIED CARD OF 'laws.FnConsistencyOrder'. -/
def fnConsistencyOrderCard : Claim7 := { stood := { row := fnConsistencyOrderRow, standIns := [], harness := (true, "c68155e156a87802457f97d91f0d66abe41f29b68eed00c1f584d800aa52b544"), looks := true }, told := true, laidByText := true, laidKinds := [.data, .handle], laidTests := true, laidLooks := .later, goes := false }
def FnConsistencyOrderToldSaid : Prop := Claim7.holds Tryf.pinned (.plain (OpenSpec.ofChange fnConsistencyOrderSpec)) fnConsistencyOrderCard
/-- ITS FALSE NEIGHBOUR. Refute it at one input. -/
def FnConsistencyOrderToldWrongFalsely : Prop := Claim7.holds Tryf.pinned (.plain (OpenSpec.ofChange fnConsistencyOrderWrong)) fnConsistencyOrderCard
end Rows
end Go.Proofs.YteilafhajhbdaaaFmt
