/- The small check 'works' of the statements answers true. -/
import Derived.Test.YtniodnkejpbheaaFmtNode
namespace Go.Proofs.YtniodnkejpbheaaFmt
open Go.ChangeShapes Go.WideShapes Go.ChangeAt Go.RowKit
theorem works_c (w : World) : Calls Tryf.prog 18 #[] w fun e w' => e = .returned (.bool true) ∧ Below w.heap.size w w' := by
  have h1 : IntKind.u64.wrap (2 + 1) = 3 := by decide
  have h2 : IntKind.u64.wrap 3 = 3 := by decide
  go_enter Tryf.func18, Tryf.ntmps18
  go_wp2_with (go_at_call 37; refine (implParent _ _ _).mono ?_; rintro e w' ⟨rfl, hb⟩)
  go_ret
  exact ⟨rfl, by assumption⟩
end Go.Proofs.YtniodnkejpbheaaFmt
