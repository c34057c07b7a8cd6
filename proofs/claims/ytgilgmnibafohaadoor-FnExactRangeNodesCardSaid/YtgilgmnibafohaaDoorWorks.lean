/- The small check 'works' of the statements answers true. -/
import Derived.Test.YtgilgmnibafohaaDoorNode
namespace Go.Proofs.YtgilgmnibafohaaDoor
open Go.ChangeShapes Go.WideShapes Go.ChangeAt Go.RowKit
theorem works_c (w : World) : Calls Tryd.prog 8 #[] w fun e w' => e = .returned (.bool true) ∧ Below w.heap.size w w' := by
  have h1 : IntKind.u64.wrap (2 + 1) = 3 := by decide
  have h2 : IntKind.u64.wrap 3 = 3 := by decide
  go_enter Tryd.func8, Tryd.ntmps8
  go_wp2_with (go_at_call 12; refine (implParent _ _ _).mono ?_; rintro e w' ⟨rfl, hb⟩)
  go_ret
  exact ⟨rfl, by assumption⟩
end Go.Proofs.YtgilgmnibafohaaDoor
