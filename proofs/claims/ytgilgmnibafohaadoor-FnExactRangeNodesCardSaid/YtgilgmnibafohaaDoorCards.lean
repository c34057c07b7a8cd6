/-
  DERIVED. GIVEN WITH THE SEED: THE CARDS: each row of YtgilgmnibafohaaDoorRows.lean that lists a variable, with what it lists TIED to the program's text (the seventh form; the later family's looks); each row that meets fmt, with fmt's text TOLD by the authors' own Lean function (tested against real Go, not proved from fmt's source: count such statements apart). THE CARD IS WHAT COUNTS. Prove the row's statement (the work); the ties are given (YtgilgmnibafohaaDoorTie.lean); close each card by the builder's one call (the guide's Derived/Test/ToyasCard.lean, 'card_holds'). Laid BY PROGRAM, IN A SANDBOX (cutbox-door.mjs). By AI agents, Wed Nov 11 2026. No macro, syntax, notation, axiom, sorry.
-/
import Derived.Test.YtgilgmnibafohaaDoorRows
import GoSem.ClaimSeven
namespace Go.Proofs.YtgilgmnibafohaaDoor
namespace Rows

/-- THE TIED CARD OF 'laws.FnExactRangeNodes'. -/
def fnExactRangeNodesCard : Claim7 := { stood := { row := fnExactRangeNodesRow, standIns := [], harness := (true, "32fbe07930ef544d22ea0a85e39e2b6033af2693cfd59a1a6619fa04034fbdc6"), looks := false }, kinds := [], alts := [], laidByText := true, laidKinds := [.data], laidTests := true, laidLooks := .later }
def FnExactRangeNodesCardSaid : Prop := Claim7.holds Tryd.pinned (.plain (OpenSpec.ofChange fnExactRangeNodesSpec)) fnExactRangeNodesCard

/-- THE TIED CARD OF 'laws.FnRangeNodesCover'. -/
def fnRangeNodesCoverCard : Claim7 := { stood := { row := fnRangeNodesCoverRow, standIns := [], harness := (true, "32fbe07930ef544d22ea0a85e39e2b6033af2693cfd59a1a6619fa04034fbdc6"), looks := false }, kinds := [], alts := [], laidByText := true, laidKinds := [.data], laidTests := true, laidLooks := .later }
def FnRangeNodesCoverCardSaid : Prop := Claim7.holds Tryd.pinned (.plain (OpenSpec.ofChange fnRangeNodesCoverSpec)) fnRangeNodesCoverCard

/-- THE SECOND FORM's CARD OF 'laws.FnExactRangeNodes'. -/
def fnExactRangeNodesUptoCard : Claim7 := { stood := { row := fnExactRangeNodesUptoRow, standIns := [], harness := (true, "32fbe07930ef544d22ea0a85e39e2b6033af2693cfd59a1a6619fa04034fbdc6"), looks := false }, kinds := [], alts := [], laidByText := true, laidKinds := [.data], laidTests := true, laidLooks := .later }
def FnExactRangeNodesUptoCardSaid : Prop := Claim7.holds Tryd.pinned (.plain (OpenSpec.upto fnExactRangeNodesSpec)) fnExactRangeNodesUptoCard

/-- THE SECOND FORM's CARD OF 'laws.FnRangeNodesCover'. -/
def fnRangeNodesCoverUptoCard : Claim7 := { stood := { row := fnRangeNodesCoverUptoRow, standIns := [], harness := (true, "32fbe07930ef544d22ea0a85e39e2b6033af2693cfd59a1a6619fa04034fbdc6"), looks := false }, kinds := [], alts := [], laidByText := true, laidKinds := [.data], laidTests := true, laidLooks := .later }
def FnRangeNodesCoverUptoCardSaid : Prop := Claim7.holds Tryd.pinned (.plain (OpenSpec.upto fnRangeNodesCoverSpec)) fnRangeNodesCoverUptoCard
end Rows
end Go.Proofs.YtgilgmnibafohaaDoor
