/-
  DERIVED. GIVEN WITH THE SEED: THE PROGRAM's TIES (one call each: nine closed facts by the kernel) AND EACH ROW's TIE, after the 31st guide's Derived/Test/Toyas{Tie, Card}.lean. No idea stands in it: it is a product of the set-up. Laid BY PROGRAM, IN A SANDBOX (cutbox-door.mjs). By AI agents, Wed Nov 11 2026. No macro, syntax, notation, axiom, sorry.
-/
import Derived.Test.YtobnmgnnidhfkaaFmtRows
import Derived.LaidByTextLater
import Derived.SevenTiedAt
import Derived.LaidSub
import Derived.LaidOnce
namespace Go.Proofs.YtobnmgnnidhfkaaFmt
open Go
set_option maxRecDepth 100000
theorem seatTie1 : Tryf.prog.laidByTextLater [("math/bits.deBruijn64tab", Rows.laid_math_bits_deBruijn64tab), ("errors.errorType", Rows.laid_errors_errorType)] [.data, .handle] true :=
  Program.laidByTextLater_by_one 21 8 65 (by kernel_rfl) (by kernel_rfl) (by kernel_rfl) (by kernel_rfl) (by kernel_rfl) (by kernel_rfl) (fun _ _ => by kernel_rfl)
theorem noOwnUnsafe : Tryf.pinned.checked.prog.headLifts.contains "ownunsafe" = false := by kernel_rfl
theorem tie : Tryf.prog.laidByTextLater [("math/bits.deBruijn64tab", Rows.laid_math_bits_deBruijn64tab), ("errors.errorType", Rows.laid_errors_errorType)] [.data, .handle] true :=
  Program.laidByTextLater.sub seatTie1 ["math/bits.deBruijn64tab", "errors.errorType"] (by kernel_rfl) (by kernel_rfl)
theorem fnInclusionBeyond_row_tie : Rows.fnInclusionBeyondRow.laidByTextAt .later Tryf.pinned [.data, .handle] true :=
  OpenClaim.laidByTextAt_later rfl rfl tie noOwnUnsafe
theorem fnRangeProof_row_tie : Rows.fnRangeProofRow.laidByTextAt .later Tryf.pinned [.data, .handle] true :=
  OpenClaim.laidByTextAt_later rfl rfl tie noOwnUnsafe
theorem fnRangeInclusion_row_tie : Rows.fnRangeInclusionRow.laidByTextAt .later Tryf.pinned [.data, .handle] true :=
  OpenClaim.laidByTextAt_later rfl rfl tie noOwnUnsafe
theorem fnRangeConsistency_row_tie : Rows.fnRangeConsistencyRow.laidByTextAt .later Tryf.pinned [.data, .handle] true :=
  OpenClaim.laidByTextAt_later rfl rfl tie noOwnUnsafe
end Go.Proofs.YtobnmgnnidhfkaaFmt
