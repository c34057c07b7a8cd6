/-
  No cell of these rows narrows 'for every input' (looked for: loops, veiled, ifaces, maps, wideKeys, modest, calm, conditions, laid).
  DERIVED. THE GIVEN ROWS OF THIS SEAT. 10 by the template 'for every input the law returns true; each argument reads behind the call as it read before'; 0 by the template 'total and deterministic' (their statements: YtgilgmnibafohaaTotals.lean).
  GIVEN WITH THE SEED: the statements are not yours to turn. If you find one false, say at which input.
  Laid BY PROGRAM, IN A SANDBOX (cutbox-rows.mjs): the forced cells as the released guide's own fill.sh prints them over the translation c474ff7687af89d5… (all of the seat's roots in one cut). By AI agents, Wed Nov 11 2026. No macro, syntax, notation, axiom, sorry.
-/
import Derived.Test.YtgilgmnibafohaaChecked
import GoSem.Claim
import GoSem.ClaimJoined
import GoSem.ClaimMapViews
import Derived.JoinedTies
import Derived.KernelRfl
namespace Go.Proofs.Ytgilgmnibafohaa
/- THE CELL 'sum', in the pinned program and in every row, IS THE sha256 OF THE DUMP (.gsa) THAT YtgilgmnibafohaaProg.lean LOADS. Nothing in Lean hashes anything: it is a label: what it is worth is what the hold of that sum in a sandbox is worth. -/
noncomputable def Try.pinned : Pinned := { name := "ytgilgmnibafohaa", sum := "c474ff7687af89d5adcc301cafdfb60b824b08c27107f32a04a87e7337c5d2eb", checked := Try.checked }
namespace Rows
def none {H : Type} : Left H := { results := [], args := [] }

/-- 'laws.FnExactCoverage': WHATEVER THE INPUT: true; the input reads as it did. -/
def fnExactCoverageSpec : ChangeSpec := { name := "fnExactCoverage", fn := fun _ => fun
  | [d] => { results := [.lit (.bool true)], args := [d] }
  | _ => none }
def fnExactCoverageRow : OpenClaim := { program := "ytgilgmnibafohaa", sum := "c474ff7687af89d5adcc301cafdfb60b824b08c27107f32a04a87e7337c5d2eb", func := "loop.example/pub-logproofs/laws.FnExactCoverage", spec := "fnExactCoverage", apart := false }
def FnExactCoverageSaid : Prop := fnExactCoverageRow.holds Try.pinned (OpenSpec.ofChange fnExactCoverageSpec)

/-- ITS FALSE NEIGHBOUR: 'it returns false'. Refute it at one input. -/
def fnExactCoverageWrong : ChangeSpec := { name := "fnExactCoverage", fn := fun _ => fun
  | [d] => { results := [.lit (.bool false)], args := [d] }
  | _ => none }
def FnExactCoverageWrongFalsely : Prop := fnExactCoverageRow.holds Try.pinned (OpenSpec.ofChange fnExactCoverageWrong)

/-- 'laws.FnExactNewNodeID': WHATEVER THE INPUT: true; the input reads as it did. -/
def fnExactNewNodeIDSpec : ChangeSpec := { name := "fnExactNewNodeID", fn := fun _ => fun
  | [d1, d2] => { results := [.lit (.bool true)], args := [d1, d2] }
  | _ => none }
def fnExactNewNodeIDRow : OpenClaim := { program := "ytgilgmnibafohaa", sum := "c474ff7687af89d5adcc301cafdfb60b824b08c27107f32a04a87e7337c5d2eb", func := "loop.example/pub-logproofs/laws.FnExactNewNodeID", spec := "fnExactNewNodeID", apart := false }
def FnExactNewNodeIDSaid : Prop := fnExactNewNodeIDRow.holds Try.pinned (OpenSpec.ofChange fnExactNewNodeIDSpec)

/-- ITS FALSE NEIGHBOUR: 'it returns false'. Refute it at one input. -/
def fnExactNewNodeIDWrong : ChangeSpec := { name := "fnExactNewNodeID", fn := fun _ => fun
  | [d1, d2] => { results := [.lit (.bool false)], args := [d1, d2] }
  | _ => none }
def FnExactNewNodeIDWrongFalsely : Prop := fnExactNewNodeIDRow.holds Try.pinned (OpenSpec.ofChange fnExactNewNodeIDWrong)

/-- 'laws.FnExactParent': WHATEVER THE INPUT: true; the input reads as it did. -/
def fnExactParentSpec : ChangeSpec := { name := "fnExactParent", fn := fun _ => fun
  | [d] => { results := [.lit (.bool true)], args := [d] }
  | _ => none }
def fnExactParentRow : OpenClaim := { program := "ytgilgmnibafohaa", sum := "c474ff7687af89d5adcc301cafdfb60b824b08c27107f32a04a87e7337c5d2eb", func := "loop.example/pub-logproofs/laws.FnExactParent", spec := "fnExactParent", apart := false }
def FnExactParentSaid : Prop := fnExactParentRow.holds Try.pinned (OpenSpec.ofChange fnExactParentSpec)

/-- ITS FALSE NEIGHBOUR: 'it returns false'. Refute it at one input. -/
def fnExactParentWrong : ChangeSpec := { name := "fnExactParent", fn := fun _ => fun
  | [d] => { results := [.lit (.bool false)], args := [d] }
  | _ => none }
def FnExactParentWrongFalsely : Prop := fnExactParentRow.holds Try.pinned (OpenSpec.ofChange fnExactParentWrong)

/-- 'laws.FnExactSibling': WHATEVER THE INPUT: true; the input reads as it did. -/
def fnExactSiblingSpec : ChangeSpec := { name := "fnExactSibling", fn := fun _ => fun
  | [d] => { results := [.lit (.bool true)], args := [d] }
  | _ => none }
def fnExactSiblingRow : OpenClaim := { program := "ytgilgmnibafohaa", sum := "c474ff7687af89d5adcc301cafdfb60b824b08c27107f32a04a87e7337c5d2eb", func := "loop.example/pub-logproofs/laws.FnExactSibling", spec := "fnExactSibling", apart := false }
def FnExactSiblingSaid : Prop := fnExactSiblingRow.holds Try.pinned (OpenSpec.ofChange fnExactSiblingSpec)

/-- ITS FALSE NEIGHBOUR: 'it returns false'. Refute it at one input. -/
def fnExactSiblingWrong : ChangeSpec := { name := "fnExactSibling", fn := fun _ => fun
  | [d] => { results := [.lit (.bool false)], args := [d] }
  | _ => none }
def FnExactSiblingWrongFalsely : Prop := fnExactSiblingRow.holds Try.pinned (OpenSpec.ofChange fnExactSiblingWrong)

/-- 'laws.FnSiblings': WHATEVER THE INPUT: true; the input reads as it did. -/
def fnSiblingsSpec : ChangeSpec := { name := "fnSiblings", fn := fun _ => fun
  | [d] => { results := [.lit (.bool true)], args := [d] }
  | _ => none }
def fnSiblingsRow : OpenClaim := { program := "ytgilgmnibafohaa", sum := "c474ff7687af89d5adcc301cafdfb60b824b08c27107f32a04a87e7337c5d2eb", func := "loop.example/pub-logproofs/laws.FnSiblings", spec := "fnSiblings", apart := false }
def FnSiblingsSaid : Prop := fnSiblingsRow.holds Try.pinned (OpenSpec.ofChange fnSiblingsSpec)

/-- ITS FALSE NEIGHBOUR: 'it returns false'. Refute it at one input. -/
def fnSiblingsWrong : ChangeSpec := { name := "fnSiblings", fn := fun _ => fun
  | [d] => { results := [.lit (.bool false)], args := [d] }
  | _ => none }
def FnSiblingsWrongFalsely : Prop := fnSiblingsRow.holds Try.pinned (OpenSpec.ofChange fnSiblingsWrong)

/-- 'laws.FnDecomposeAny': WHATEVER THE INPUT: true; the input reads as it did. -/
def fnDecomposeAnySpec : ChangeSpec := { name := "fnDecomposeAny", fn := fun _ => fun
  | [d1, d2] => { results := [.lit (.bool true)], args := [d1, d2] }
  | _ => none }
def fnDecomposeAnyRow : OpenClaim := { program := "ytgilgmnibafohaa", sum := "c474ff7687af89d5adcc301cafdfb60b824b08c27107f32a04a87e7337c5d2eb", func := "loop.example/pub-logproofs/laws.FnDecomposeAny", spec := "fnDecomposeAny", apart := false }
def FnDecomposeAnySaid : Prop := fnDecomposeAnyRow.holds Try.pinned (OpenSpec.ofChange fnDecomposeAnySpec)

/-- ITS FALSE NEIGHBOUR: 'it returns false'. Refute it at one input. -/
def fnDecomposeAnyWrong : ChangeSpec := { name := "fnDecomposeAny", fn := fun _ => fun
  | [d1, d2] => { results := [.lit (.bool false)], args := [d1, d2] }
  | _ => none }
def FnDecomposeAnyWrongFalsely : Prop := fnDecomposeAnyRow.holds Try.pinned (OpenSpec.ofChange fnDecomposeAnyWrong)

/-- 'laws.FnDecomposeFrom0': WHATEVER THE INPUT: true; the input reads as it did. -/
def fnDecomposeFrom0Spec : ChangeSpec := { name := "fnDecomposeFrom0", fn := fun _ => fun
  | [d] => { results := [.lit (.bool true)], args := [d] }
  | _ => none }
def fnDecomposeFrom0Row : OpenClaim := { program := "ytgilgmnibafohaa", sum := "c474ff7687af89d5adcc301cafdfb60b824b08c27107f32a04a87e7337c5d2eb", func := "loop.example/pub-logproofs/laws.FnDecomposeFrom0", spec := "fnDecomposeFrom0", apart := false }
def FnDecomposeFrom0Said : Prop := fnDecomposeFrom0Row.holds Try.pinned (OpenSpec.ofChange fnDecomposeFrom0Spec)

/-- ITS FALSE NEIGHBOUR: 'it returns false'. Refute it at one input. -/
def fnDecomposeFrom0Wrong : ChangeSpec := { name := "fnDecomposeFrom0", fn := fun _ => fun
  | [d] => { results := [.lit (.bool false)], args := [d] }
  | _ => none }
def FnDecomposeFrom0WrongFalsely : Prop := fnDecomposeFrom0Row.holds Try.pinned (OpenSpec.ofChange fnDecomposeFrom0Wrong)

/-- 'laws.FnDecomposeSum': WHATEVER THE INPUT: true; the input reads as it did. -/
def fnDecomposeSumSpec : ChangeSpec := { name := "fnDecomposeSum", fn := fun _ => fun
  | [d1, d2] => { results := [.lit (.bool true)], args := [d1, d2] }
  | _ => none }
def fnDecomposeSumRow : OpenClaim := { program := "ytgilgmnibafohaa", sum := "c474ff7687af89d5adcc301cafdfb60b824b08c27107f32a04a87e7337c5d2eb", func := "loop.example/pub-logproofs/laws.FnDecomposeSum", spec := "fnDecomposeSum", apart := false }
def FnDecomposeSumSaid : Prop := fnDecomposeSumRow.holds Try.pinned (OpenSpec.ofChange fnDecomposeSumSpec)

/-- ITS FALSE NEIGHBOUR: 'it returns false'. Refute it at one input. -/
def fnDecomposeSumWrong : ChangeSpec := { name := "fnDecomposeSum", fn := fun _ => fun
  | [d1, d2] => { results := [.lit (.bool false)], args := [d1, d2] }
  | _ => none }
def FnDecomposeSumWrongFalsely : Prop := fnDecomposeSumRow.holds Try.pinned (OpenSpec.ofChange fnDecomposeSumWrong)

/-- 'laws.FnExactDecompose': WHATEVER THE INPUT: true; the input reads as it did. -/
def fnExactDecomposeSpec : ChangeSpec := { name := "fnExactDecompose", fn := fun _ => fun
  | [d1, d2] => { results := [.lit (.bool true)], args := [d1, d2] }
  | _ => none }
def fnExactDecomposeRow : OpenClaim := { program := "ytgilgmnibafohaa", sum := "c474ff7687af89d5adcc301cafdfb60b824b08c27107f32a04a87e7337c5d2eb", func := "loop.example/pub-logproofs/laws.FnExactDecompose", spec := "fnExactDecompose", apart := false }
def FnExactDecomposeSaid : Prop := fnExactDecomposeRow.holds Try.pinned (OpenSpec.ofChange fnExactDecomposeSpec)

/-- ITS FALSE NEIGHBOUR: 'it returns false'. Refute it at one input. -/
def fnExactDecomposeWrong : ChangeSpec := { name := "fnExactDecompose", fn := fun _ => fun
  | [d1, d2] => { results := [.lit (.bool false)], args := [d1, d2] }
  | _ => none }
def FnExactDecomposeWrongFalsely : Prop := fnExactDecomposeRow.holds Try.pinned (OpenSpec.ofChange fnExactDecomposeWrong)

/-- 'laws.FnExactRangeSize': WHATEVER THE INPUT: true; the input reads as it did. -/
def fnExactRangeSizeSpec : ChangeSpec := { name := "fnExactRangeSize", fn := fun _ => fun
  | [d1, d2] => { results := [.lit (.bool true)], args := [d1, d2] }
  | _ => none }
def fnExactRangeSizeRow : OpenClaim := { program := "ytgilgmnibafohaa", sum := "c474ff7687af89d5adcc301cafdfb60b824b08c27107f32a04a87e7337c5d2eb", func := "loop.example/pub-logproofs/laws.FnExactRangeSize", spec := "fnExactRangeSize", apart := false }
def FnExactRangeSizeSaid : Prop := fnExactRangeSizeRow.holds Try.pinned (OpenSpec.ofChange fnExactRangeSizeSpec)

/-- ITS FALSE NEIGHBOUR: 'it returns false'. Refute it at one input. -/
def fnExactRangeSizeWrong : ChangeSpec := { name := "fnExactRangeSize", fn := fun _ => fun
  | [d1, d2] => { results := [.lit (.bool false)], args := [d1, d2] }
  | _ => none }
def FnExactRangeSizeWrongFalsely : Prop := fnExactRangeSizeRow.holds Try.pinned (OpenSpec.ofChange fnExactRangeSizeWrong)

/- THE SECOND FORM. 'bulk': how many values and letters a reading holds, each counted each time it is reached (what is shared counts as often as it is met; a slice's spare places count too). A statement '..UptoSaid' is the law's where the arguments, and the package variables that the reading takes, are together of bulk at most 1048576: NARROWER than '..Said'. Prove '..Said' where nothing that the law and all that it calls make is longer than what came in: it says more and counts as full. Else prove '..UptoSaid'. A law counts once. -/
mutual
def uptoBulk {H : Type} : DataW H → Nat
  | .lit (.string bytes) => bytes.length + 1
  | .lit _ => 1
  | .nil => 1
  | .ptr d => uptoBulk d + 1
  | .slice elems spare => uptoBulkAll elems + uptoBulkAll spare + 1
  | .agg parts => uptoBulkAll parts + 1
  | .iface _ d => uptoBulk d + 1
  | .map entries => uptoBulkEntries entries + 1
  | .held _ => 1
def uptoBulkAll {H : Type} : List (DataW H) → Nat
  | [] => 0
  | d :: r => uptoBulk d + uptoBulkAll r
def uptoBulkEntries {H : Type} : List (Lit × DataW H) → Nat
  | [] => 0
  | x :: r => uptoBulkEntry x + uptoBulkEntries r
def uptoBulkEntry {H : Type} : Lit × DataW H → Nat
  | (.string bytes, d) => bytes.length + uptoBulk d + 1
  | (_, d) => uptoBulk d + 1
 end
def uptoSmall : (H : Type) → List (DataW H) → Bool := fun _ ds => decide (uptoBulkAll ds ≤ 1048576)
def OpenSpec.upto (s : _root_.Go.ChangeSpec) : _root_.Go.OpenSpec := { _root_.Go.OpenSpec.ofChange s with cond := some uptoSmall }

/-- 'laws.FnExactCoverage', WHERE WHAT IT READS IS OF BULK AT MOST 1048576: true; the input reads as it did. -/
def fnExactCoverageUptoRow : OpenClaim := { program := "ytgilgmnibafohaa", sum := "c474ff7687af89d5adcc301cafdfb60b824b08c27107f32a04a87e7337c5d2eb", func := "loop.example/pub-logproofs/laws.FnExactCoverage", spec := "fnExactCoverage", apart := false, narrowed := true }
def FnExactCoverageUptoSaid : Prop := fnExactCoverageUptoRow.holds Try.pinned (OpenSpec.upto fnExactCoverageSpec)

/-- 'laws.FnExactNewNodeID', WHERE WHAT IT READS IS OF BULK AT MOST 1048576: true; the input reads as it did. -/
def fnExactNewNodeIDUptoRow : OpenClaim := { program := "ytgilgmnibafohaa", sum := "c474ff7687af89d5adcc301cafdfb60b824b08c27107f32a04a87e7337c5d2eb", func := "loop.example/pub-logproofs/laws.FnExactNewNodeID", spec := "fnExactNewNodeID", apart := false, narrowed := true }
def FnExactNewNodeIDUptoSaid : Prop := fnExactNewNodeIDUptoRow.holds Try.pinned (OpenSpec.upto fnExactNewNodeIDSpec)

/-- 'laws.FnExactParent', WHERE WHAT IT READS IS OF BULK AT MOST 1048576: true; the input reads as it did. -/
def fnExactParentUptoRow : OpenClaim := { program := "ytgilgmnibafohaa", sum := "c474ff7687af89d5adcc301cafdfb60b824b08c27107f32a04a87e7337c5d2eb", func := "loop.example/pub-logproofs/laws.FnExactParent", spec := "fnExactParent", apart := false, narrowed := true }
def FnExactParentUptoSaid : Prop := fnExactParentUptoRow.holds Try.pinned (OpenSpec.upto fnExactParentSpec)

/-- 'laws.FnExactSibling', WHERE WHAT IT READS IS OF BULK AT MOST 1048576: true; the input reads as it did. -/
def fnExactSiblingUptoRow : OpenClaim := { program := "ytgilgmnibafohaa", sum := "c474ff7687af89d5adcc301cafdfb60b824b08c27107f32a04a87e7337c5d2eb", func := "loop.example/pub-logproofs/laws.FnExactSibling", spec := "fnExactSibling", apart := false, narrowed := true }
def FnExactSiblingUptoSaid : Prop := fnExactSiblingUptoRow.holds Try.pinned (OpenSpec.upto fnExactSiblingSpec)

/-- 'laws.FnSiblings', WHERE WHAT IT READS IS OF BULK AT MOST 1048576: true; the input reads as it did. -/
def fnSiblingsUptoRow : OpenClaim := { program := "ytgilgmnibafohaa", sum := "c474ff7687af89d5adcc301cafdfb60b824b08c27107f32a04a87e7337c5d2eb", func := "loop.example/pub-logproofs/laws.FnSiblings", spec := "fnSiblings", apart := false, narrowed := true }
def FnSiblingsUptoSaid : Prop := fnSiblingsUptoRow.holds Try.pinned (OpenSpec.upto fnSiblingsSpec)

/-- 'laws.FnDecomposeAny', WHERE WHAT IT READS IS OF BULK AT MOST 1048576: true; the input reads as it did. -/
def fnDecomposeAnyUptoRow : OpenClaim := { program := "ytgilgmnibafohaa", sum := "c474ff7687af89d5adcc301cafdfb60b824b08c27107f32a04a87e7337c5d2eb", func := "loop.example/pub-logproofs/laws.FnDecomposeAny", spec := "fnDecomposeAny", apart := false, narrowed := true }
def FnDecomposeAnyUptoSaid : Prop := fnDecomposeAnyUptoRow.holds Try.pinned (OpenSpec.upto fnDecomposeAnySpec)

/-- 'laws.FnDecomposeFrom0', WHERE WHAT IT READS IS OF BULK AT MOST 1048576: true; the input reads as it did. -/
def fnDecomposeFrom0UptoRow : OpenClaim := { program := "ytgilgmnibafohaa", sum := "c474ff7687af89d5adcc301cafdfb60b824b08c27107f32a04a87e7337c5d2eb", func := "loop.example/pub-logproofs/laws.FnDecomposeFrom0", spec := "fnDecomposeFrom0", apart := false, narrowed := true }
def FnDecomposeFrom0UptoSaid : Prop := fnDecomposeFrom0UptoRow.holds Try.pinned (OpenSpec.upto fnDecomposeFrom0Spec)

/-- 'laws.FnDecomposeSum', WHERE WHAT IT READS IS OF BULK AT MOST 1048576: true; the input reads as it did. -/
def fnDecomposeSumUptoRow : OpenClaim := { program := "ytgilgmnibafohaa", sum := "c474ff7687af89d5adcc301cafdfb60b824b08c27107f32a04a87e7337c5d2eb", func := "loop.example/pub-logproofs/laws.FnDecomposeSum", spec := "fnDecomposeSum", apart := false, narrowed := true }
def FnDecomposeSumUptoSaid : Prop := fnDecomposeSumUptoRow.holds Try.pinned (OpenSpec.upto fnDecomposeSumSpec)

/-- 'laws.FnExactDecompose', WHERE WHAT IT READS IS OF BULK AT MOST 1048576: true; the input reads as it did. -/
def fnExactDecomposeUptoRow : OpenClaim := { program := "ytgilgmnibafohaa", sum := "c474ff7687af89d5adcc301cafdfb60b824b08c27107f32a04a87e7337c5d2eb", func := "loop.example/pub-logproofs/laws.FnExactDecompose", spec := "fnExactDecompose", apart := false, narrowed := true }
def FnExactDecomposeUptoSaid : Prop := fnExactDecomposeUptoRow.holds Try.pinned (OpenSpec.upto fnExactDecomposeSpec)

/-- 'laws.FnExactRangeSize', WHERE WHAT IT READS IS OF BULK AT MOST 1048576: true; the input reads as it did. -/
def fnExactRangeSizeUptoRow : OpenClaim := { program := "ytgilgmnibafohaa", sum := "c474ff7687af89d5adcc301cafdfb60b824b08c27107f32a04a87e7337c5d2eb", func := "loop.example/pub-logproofs/laws.FnExactRangeSize", spec := "fnExactRangeSize", apart := false, narrowed := true }
def FnExactRangeSizeUptoSaid : Prop := fnExactRangeSizeUptoRow.holds Try.pinned (OpenSpec.upto fnExactRangeSizeSpec)

end Rows
end Go.Proofs.Ytgilgmnibafohaa
