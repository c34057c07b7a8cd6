/-
  DERIVED. GIVEN WITH THE SEED: THE PROGRAM's TIES (one call each: nine closed facts by the kernel) AND EACH ROW's TIE, after the 31st guide's Derived/Test/Toyas{Tie, Card}.lean. No idea stands in it: it is a product of the set-up. Laid BY PROGRAM, IN A SANDBOX (cutbox-door.mjs). By AI agents, Wed Nov 11 2026. No macro, syntax, notation, axiom, sorry.
-/
import Derived.Test.YtniodnkejpbheaaFmtRows
import Derived.LaidByTextLater
import Derived.SevenTiedAt
import Derived.LaidSub
import Derived.LaidOnce
namespace Go.Proofs.YtniodnkejpbheaaFmt
open Go
set_option maxRecDepth 100000
theorem seatTie1 : Tryf.prog.laidByTextLater [("math/bits.deBruijn64tab", Rows.laid_math_bits_deBruijn64tab), ("errors.errorType", Rows.laid_errors_errorType)] [.data, .handle] true :=
  Program.laidByTextLater_by_one 21 8 65 (by kernel_rfl) (by kernel_rfl) (by kernel_rfl) (by kernel_rfl) (by kernel_rfl) (by kernel_rfl) (fun _ _ => by kernel_rfl)
theorem noOwnUnsafe : Tryf.pinned.checked.prog.headLifts.contains "ownunsafe" = false := by kernel_rfl
theorem tie : Tryf.prog.laidByTextLater [("math/bits.deBruijn64tab", Rows.laid_math_bits_deBruijn64tab)] [.data] true :=
  Program.laidByTextLater.sub seatTie1 ["math/bits.deBruijn64tab"] (by kernel_rfl) (by kernel_rfl)
theorem fnInclusionEphem_row_tie : Rows.fnInclusionEphemRow.laidByTextAt .later Tryf.pinned [.data] true :=
  OpenClaim.laidByTextAt_later rfl rfl tie noOwnUnsafe
theorem fnInclusionNodes_row_tie : Rows.fnInclusionNodesRow.laidByTextAt .later Tryf.pinned [.data] true :=
  OpenClaim.laidByTextAt_later rfl rfl tie noOwnUnsafe
theorem fnInclusionPerfect_row_tie : Rows.fnInclusionPerfectRow.laidByTextAt .later Tryf.pinned [.data] true :=
  OpenClaim.laidByTextAt_later rfl rfl tie noOwnUnsafe
theorem fnInclusionOther_row_tie : Rows.fnInclusionOtherRow.laidByTextAt .later Tryf.pinned [.data] true :=
  OpenClaim.laidByTextAt_later rfl rfl tie noOwnUnsafe
theorem fnConsistencyEphem_row_tie : Rows.fnConsistencyEphemRow.laidByTextAt .later Tryf.pinned [.data] true :=
  OpenClaim.laidByTextAt_later rfl rfl tie noOwnUnsafe
theorem fnConsistencyEqual_row_tie : Rows.fnConsistencyEqualRow.laidByTextAt .later Tryf.pinned [.data] true :=
  OpenClaim.laidByTextAt_later rfl rfl tie noOwnUnsafe
theorem fnConsistencyNodes_row_tie : Rows.fnConsistencyNodesRow.laidByTextAt .later Tryf.pinned [.data] true :=
  OpenClaim.laidByTextAt_later rfl rfl tie noOwnUnsafe
theorem tie2 : Tryf.prog.laidByTextLater [("math/bits.deBruijn64tab", Rows.laid_math_bits_deBruijn64tab), ("errors.errorType", Rows.laid_errors_errorType)] [.data, .handle] true :=
  Program.laidByTextLater.sub seatTie1 ["math/bits.deBruijn64tab", "errors.errorType"] (by kernel_rfl) (by kernel_rfl)
theorem fnInclusionRehash_row_tie : Rows.fnInclusionRehashRow.laidByTextAt .later Tryf.pinned [.data, .handle] true :=
  OpenClaim.laidByTextAt_later rfl rfl tie2 noOwnUnsafe
theorem fnRehashCount_row_tie : Rows.fnRehashCountRow.laidByTextAt .later Tryf.pinned [.data, .handle] true :=
  OpenClaim.laidByTextAt_later rfl rfl tie2 noOwnUnsafe
theorem fnRehashLength_row_tie : Rows.fnRehashLengthRow.laidByTextAt .later Tryf.pinned [.data, .handle] true :=
  OpenClaim.laidByTextAt_later rfl rfl tie2 noOwnUnsafe
theorem fnConsistencyRehash_row_tie : Rows.fnConsistencyRehashRow.laidByTextAt .later Tryf.pinned [.data, .handle] true :=
  OpenClaim.laidByTextAt_later rfl rfl tie2 noOwnUnsafe
theorem fnRehashLengthConsistency_row_tie : Rows.fnRehashLengthConsistencyRow.laidByTextAt .later Tryf.pinned [.data, .handle] true :=
  OpenClaim.laidByTextAt_later rfl rfl tie2 noOwnUnsafe
end Go.Proofs.YtniodnkejpbheaaFmt
