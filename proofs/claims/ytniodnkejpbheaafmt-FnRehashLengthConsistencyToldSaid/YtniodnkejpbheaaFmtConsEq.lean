/- impl.Consistency between equal sizes. -/
import Derived.Test.YtniodnkejpbheaaFmtPlan
namespace Go.Proofs.YtniodnkejpbheaaFmt
open Go.ChangeShapes Go.WideShapes Go.ChangeAt Go.RowKit
set_option maxRecDepth 20000
theorem consSame_c (n : Nat) (w : World) : Calls Tryf.prog 39 #[.int .u64 n, .int .u64 n] w fun e w' => ∃ v, e = .returned (.tuple #[.agg #[v, .int .i64 0, .int .i64 0, .int .u64 0, .int .u64 0], .nilIface]) ∧ NodesR w' v [] ∧ Below w.heap.size w w' := by
  go_enter Tryf.func39, Tryf.ntmps39
  go_wp2_with fail
  refine bodyPost_ret (v := .tuple #[.agg #[.slice (some ⟨w.heap.size + 1, 0, none⟩) 0 0, .int .i64 0, .int .i64 0, .int .u64 0, .int .u64 0], .nilIface]) (by simp [results, Tryf.results39, go_sem]) rfl ?_
  exact ⟨_, rfl, ⟨_, 0, rfl, Nat.le_refl _, fun h => absurd h (by decide)⟩, ((Below.refl _ _).alloc (Nat.le_refl _) _).alloc (by simp) _⟩
end Go.Proofs.YtniodnkejpbheaaFmt
