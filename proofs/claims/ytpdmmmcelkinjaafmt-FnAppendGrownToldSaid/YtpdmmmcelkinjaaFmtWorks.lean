/- The small check 'works' of the statements answers true. -/
import Derived.Test.YtpdmmmcelkinjaaFmtNode
namespace Go.Proofs.YtpdmmmcelkinjaaFmt
open Go.ChangeShapes Go.WideShapes Go.ChangeAt Go.RowKit
theorem works_c (w : World) : Calls Tryf.prog 21 #[] w fun e w' => e = .returned (.bool true) ∧ Below w.heap.size w w' := by
  have h1 : IntKind.u64.wrap (2 + 1) = 3 := by decide
  have h2 : IntKind.u64.wrap 3 = 3 := by decide
  go_enter Tryf.func21, Tryf.ntmps21
  go_wp2_with (go_at_call 32; refine (implParent _ _ _).mono ?_; rintro e w' ⟨rfl, hb⟩)
  go_ret
  exact ⟨rfl, by assumption⟩
end Go.Proofs.YtpdmmmcelkinjaaFmt
