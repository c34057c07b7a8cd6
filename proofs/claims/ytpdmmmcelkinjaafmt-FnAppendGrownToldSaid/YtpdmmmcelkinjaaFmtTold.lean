/- The table of math/bits as a told row lists it; a world that holds it; what the builder of a told and tied card asks of the program. -/
import Derived.Test.YtpdmmmcelkinjaaFmtCards
import Derived.Test.YtpdmmmcelkinjaaFmtTie
import Derived.Test.YtpdmmmcelkinjaaFmtTz
import Derived.Test.YtpdmmmcelkinjaaFmtOpen
import Derived.Test.YtpdmmmcelkinjaaFmtEnter
import Derived.OpenShut
import Derived.Deep.DeepWitnessRowRef
import Derived.Stop.JoinedAt
import Derived.Stop.JoinedTold
import Derived.SevenTiedAt
import Derived.Lib.LaidTab
namespace Go.Proofs.YtpdmmmcelkinjaaFmt
open Go.ChangeShapes Go.WideShapes Go.ChangeAt Go.RowKit

theorem gTab : Tryf.prog.globalNamed "math/bits.deBruijn64tab" = some 0 := by kernel_rfl
theorem gTabType : (Tryf.prog.globals[0]?).map (·.type) = some 101 := by kernel_rfl
theorem cellsTab : Tryf.prog.cellsOf 101 = 64 := by kernel_rfl
theorem cellsU8 : Tryf.prog.cellsOf 5 = 1 := by kernel_rfl
theorem tab_of {W : World} (h : laidMetH Tryf.prog [("math/bits.deBruijn64tab", Rows.laid_math_bits_deBruijn64tab)] W) : Tab W := by
  have ht : Lib.TabIs Tryf.prog W "math/bits.deBruijn64tab" .u8 (Lib.deBruijn64tab.map fun n => Int.ofNat n) :=
    Lib.tabIs_of_head (rest := []) gTab gTabType Tryf.underlying101 Tryf.underlying5 cellsU8 cellsTab h
  intro j hj
  have := ht.cell gTab j (by rw [List.length_map]; exact hj)
  rw [this]
  have e : (Lib.deBruijn64tab.map fun n => Int.ofNat n).getD j 0 = ((Lib.deBruijn64tab.getD j 0 : Nat) : Int) := by
    have hl : j < Lib.deBruijn64tab.length := hj
    simp [List.getD, hl]
  rw [e]
def LaidIs (W : World) : Prop := Tab W
theorem laidIs_of {W : World} (h : laidMetH Tryf.prog [("math/bits.deBruijn64tab", Rows.laid_math_bits_deBruijn64tab)] W) : LaidIs W := tab_of h
/-- A world for the witness: the settled one, the table holding what its initialiser lays. -/
noncomputable def laidWorld (os : Os) : World :=
  { World.holding Tryf.prog os ⟨#[], #[], []⟩ with heap := (World.holding Tryf.prog os ⟨#[], #[], []⟩).heap.modify 0 fun
      | .cells _ t frozen => .cells #[.int .u8 0, .int .u8 1, .int .u8 56, .int .u8 2, .int .u8 57, .int .u8 49, .int .u8 28, .int .u8 3, .int .u8 61, .int .u8 58, .int .u8 42, .int .u8 50, .int .u8 38, .int .u8 29, .int .u8 17, .int .u8 4, .int .u8 62, .int .u8 47, .int .u8 59, .int .u8 36, .int .u8 45, .int .u8 43, .int .u8 51, .int .u8 22, .int .u8 53, .int .u8 39, .int .u8 33, .int .u8 30, .int .u8 24, .int .u8 18, .int .u8 12, .int .u8 5, .int .u8 63, .int .u8 55, .int .u8 48, .int .u8 27, .int .u8 60, .int .u8 41, .int .u8 37, .int .u8 16, .int .u8 46, .int .u8 35, .int .u8 44, .int .u8 21, .int .u8 52, .int .u8 32, .int .u8 23, .int .u8 11, .int .u8 54, .int .u8 26, .int .u8 40, .int .u8 15, .int .u8 34, .int .u8 20, .int .u8 31, .int .u8 10, .int .u8 25, .int .u8 14, .int .u8 19, .int .u8 9, .int .u8 13, .int .u8 8, .int .u8 7, .int .u8 6] t frozen
      | o => o }
theorem laid_met (os : Os) (args : Array Value) : laidMetH Tryf.prog [("math/bits.deBruijn64tab", Rows.laid_math_bits_deBruijn64tab)] ((laidWorld os).forCall (fun _ _ => 0) ⟨#[], args, []⟩).memory :=
  laidMet_of_run' 8 (by kernel_rfl) (by kernel_rfl)
theorem stopsAre : Tryf.pinned.checked.prog.stops = ["fmt.errorf"] := by kernel_rfl
theorem stopKnobs : Tryf.pinned.checked.prog.stopKnobs = [] := by kernel_rfl
theorem quiet (os : Os) : Stop.quiet Tryf.pinned.checked.prog os := by
  intro k hk
  rw [stopKnobs] at hk
  cases hk
end Go.Proofs.YtpdmmmcelkinjaaFmt
