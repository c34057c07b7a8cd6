/- What a law's frame hands to its walk: the bounds of a number, the two fields of a node. -/
import Derived.Test.YtpdmmmcelkinjaaFmtRows
import Derived.WalkKit
import Derived.ProofKit
import Derived.OpenShut
import Derived.ChangeOld
import Derived.Below
import Derived.Lib.SmallJoins
namespace Go.Proofs.YtpdmmmcelkinjaaFmt
open Go.ChangeShapes Go.WideShapes Go.ChangeAt Go.RowKit Go.Joins
set_option maxRecDepth 100000

theorem own : ownKnob Tryf.prog.godebug = none := by kernel_rfl
theorem laidOut : laidOutB Tryf.prog = true := by kernel_rfl
theorem bound_u64 {a : Int} (h : (Lit.int .u64 a).wf = true) : 0 ≤ a ∧ a < 18446744073709551616 := by
  have := bounds_u64 h
  omega
theorem cellsNode : Tryf.prog.cellsOf 45 = 2 := by kernel_rfl
theorem openNode {H : Type} {enc : TypeId × Value → H} {w : World} {base : Nat} {b0 : Nat} {r : Reach} {spare : Nat → Bool} {held : Bool} {v : Value} {d : DataW H} {p : List MemPlace}
    (hv : Value.okWide Tryf.prog w r b0 45 v) (h : DataW.Trod enc Tryf.prog w base spare held 45 v d p) :
    ∃ a b : Int, v = .agg #[.int .u64 a, .int .u64 b] ∧ 0 ≤ a ∧ a < 18446744073709551616 ∧ 0 ≤ b ∧ b < 18446744073709551616 := by
  obtain ⟨v0, v1, y0, y1, n, rfl, rfl, rfl, hy0, hy1⟩ := open_agg2 Tryf.underlying45 (by kernel_rfl) cellsNode hv h
  obtain ⟨a, e0, rfl, wa⟩ := DataW.trod_int Tryf.underlying43 hy0
  obtain ⟨b, e1, rfl, wb⟩ := DataW.trod_int Tryf.underlying27 hy1
  simp at e0 e1
  subst e0 e1
  have h0 := bound_u64 wa
  have h1 := bound_u64 wb
  exact ⟨a, b, rfl, h0.1, h0.2, h1.1, h1.2⟩
end Go.Proofs.YtpdmmmcelkinjaaFmt
