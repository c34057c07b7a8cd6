/-
  NARROWER THAN 'FOR EVERY INPUT', by the rows' own cells (each row's printed sentence says how): FnInclusionBeyond: laid · FnRangeProof: laid · FnRangeInclusion: laid · FnRangeConsistency: laid.
  DERIVED. THE GIVEN ROWS OF THIS SEAT. 4 by the template 'for every input the law returns true; each argument reads behind the call as it read before'; 0 by the template 'total and deterministic' (their statements: YtobnmgnnidhfkaaFmtTotals.lean).
  GIVEN WITH THE SEED: the statements are not yours to turn. If you find one false, say at which input.
  Laid BY PROGRAM, IN A SANDBOX (cutbox-rows.mjs): the forced cells as the released guide's own fill.sh prints them over the translation 229c42d5a9fbe2df… (all of the seat's roots in one cut). By AI agents, Wed Nov 11 2026. No macro, syntax, notation, axiom, sorry.
-/
import Derived.Test.YtobnmgnnidhfkaaFmtChecked
import GoSem.Claim
import GoSem.ClaimJoined
import GoSem.ClaimMapViews
import Derived.JoinedTies
import Derived.KernelRfl
namespace Go.Proofs.YtobnmgnnidhfkaaFmt
/- THE CELL 'sum', in the pinned program and in every row, IS THE sha256 OF THE DUMP (.gsa) THAT YtobnmgnnidhfkaaFmtProg.lean LOADS. Nothing in Lean hashes anything: it is a label: what it is worth is what the hold of that sum in a sandbox is worth. -/
noncomputable def Tryf.pinned : Pinned := { name := "ytobnmgnnidhfkaafmt", sum := "229c42d5a9fbe2dfa01bfd5061a47093749eebef69fb76ea6cc5aaed021fd2a6", checked := Tryf.checked }
namespace Rows
def none {H : Type} : Left H := { results := [], args := [] }

/- WHAT THE LISTED PACKAGE-LEVEL VARIABLES READ AS WHEN THE CALL BEGINS. Each datum BY PROGRAM (the guide's laid-datum.mjs) off the statement by which the dump's own 'gosem.cut.vars' lays the variable. In a bare row this is a premise. The card (YtobnmgnnidhfkaaFmtCards.lean) ties it to the program's text. -/
def laid_math_bits_deBruijn64tab {H : Type} : DataW H := .agg [.lit (.int .u8 0), .lit (.int .u8 1), .lit (.int .u8 56), .lit (.int .u8 2), .lit (.int .u8 57), .lit (.int .u8 49), .lit (.int .u8 28), .lit (.int .u8 3), .lit (.int .u8 61), .lit (.int .u8 58), .lit (.int .u8 42), .lit (.int .u8 50), .lit (.int .u8 38), .lit (.int .u8 29), .lit (.int .u8 17), .lit (.int .u8 4), .lit (.int .u8 62), .lit (.int .u8 47), .lit (.int .u8 59), .lit (.int .u8 36), .lit (.int .u8 45), .lit (.int .u8 43), .lit (.int .u8 51), .lit (.int .u8 22), .lit (.int .u8 53), .lit (.int .u8 39), .lit (.int .u8 33), .lit (.int .u8 30), .lit (.int .u8 24), .lit (.int .u8 18), .lit (.int .u8 12), .lit (.int .u8 5), .lit (.int .u8 63), .lit (.int .u8 55), .lit (.int .u8 48), .lit (.int .u8 27), .lit (.int .u8 60), .lit (.int .u8 41), .lit (.int .u8 37), .lit (.int .u8 16), .lit (.int .u8 46), .lit (.int .u8 35), .lit (.int .u8 44), .lit (.int .u8 21), .lit (.int .u8 52), .lit (.int .u8 32), .lit (.int .u8 23), .lit (.int .u8 11), .lit (.int .u8 54), .lit (.int .u8 26), .lit (.int .u8 40), .lit (.int .u8 15), .lit (.int .u8 34), .lit (.int .u8 20), .lit (.int .u8 31), .lit (.int .u8 10), .lit (.int .u8 25), .lit (.int .u8 14), .lit (.int .u8 19), .lit (.int .u8 9), .lit (.int .u8 13), .lit (.int .u8 8), .lit (.int .u8 7), .lit (.int .u8 6)]
def laid_errors_errorType {H : Type} : DataW H := .iface "internal/reflectlite.rtype" (.agg [.ptr (.lit (.string [101, 114, 114, 111, 114]))])

/-- 'laws.FnInclusionBeyond': WHATEVER THE INPUT: true; the input reads as it did. -/
def fnInclusionBeyondSpec : ChangeSpec := { name := "fnInclusionBeyond", fn := fun _ => fun
  | [d1, d2, d3, d4, d5, d6] => { results := [.lit (.bool true)], args := [d1, d2, d3, d4, d5, d6] }
  | _ => none }
def fnInclusionBeyondRow : OpenClaim := { program := "ytobnmgnnidhfkaafmt", sum := "229c42d5a9fbe2dfa01bfd5061a47093749eebef69fb76ea6cc5aaed021fd2a6", func := "loop.example/pub-logproofs/laws.FnInclusionBeyond", spec := "fnInclusionBeyond", stops := ["fmt.errorf"], inPlace := ["fmt.errorf", "internal/reflectlite.ValueOf", "(internal/reflectlite.Value).Type", "(internal/reflectlite.Value).IsNil", "internal/reflectlite.TypeOf", "(internal/reflectlite.Value).Elem", "(internal/reflectlite.Value).Set"], unfollowed := true, recurses := true, named := ["math/bits.deBruijn64tab", "errors.errorType"], apart := false, laid := [("math/bits.deBruijn64tab", laid_math_bits_deBruijn64tab), ("errors.errorType", laid_errors_errorType)] }
/-- NO THEOREM (fmt's text is open here; it may be false): for the released tool's asking of the row's closed facts alone. THE STATEMENT IS 'FnInclusionBeyondToldSaid' (YtobnmgnnidhfkaaFmtCards.lean). -/
def FnInclusionBeyondFormAsk : Prop := fnInclusionBeyondRow.holds Tryf.pinned (OpenSpec.ofChange fnInclusionBeyondSpec)

/-- ITS FALSE NEIGHBOUR: 'it returns false'. Refute it at one input. -/
def fnInclusionBeyondWrong : ChangeSpec := { name := "fnInclusionBeyond", fn := fun _ => fun
  | [d1, d2, d3, d4, d5, d6] => { results := [.lit (.bool false)], args := [d1, d2, d3, d4, d5, d6] }
  | _ => none }
def FnInclusionBeyondWrongFormAsk : Prop := fnInclusionBeyondRow.holds Tryf.pinned (OpenSpec.ofChange fnInclusionBeyondWrong)

/-- 'laws.FnRangeProof': WHATEVER THE INPUT: true; the input reads as it did. -/
def fnRangeProofSpec : ChangeSpec := { name := "fnRangeProof", fn := fun _ => fun
  | [d1, d2, d3] => { results := [.lit (.bool true)], args := [d1, d2, d3] }
  | _ => none }
def fnRangeProofRow : OpenClaim := { program := "ytobnmgnnidhfkaafmt", sum := "229c42d5a9fbe2dfa01bfd5061a47093749eebef69fb76ea6cc5aaed021fd2a6", func := "loop.example/pub-logproofs/laws.FnRangeProof", spec := "fnRangeProof", stops := ["fmt.errorf"], inPlace := ["fmt.errorf", "internal/reflectlite.ValueOf", "(internal/reflectlite.Value).Type", "(internal/reflectlite.Value).IsNil", "internal/reflectlite.TypeOf", "(internal/reflectlite.Value).Elem", "(internal/reflectlite.Value).Set"], unfollowed := true, recurses := true, named := ["math/bits.deBruijn64tab", "errors.errorType"], apart := false, laid := [("math/bits.deBruijn64tab", laid_math_bits_deBruijn64tab), ("errors.errorType", laid_errors_errorType)] }
/-- NO THEOREM (fmt's text is open here; it may be false): for the released tool's asking of the row's closed facts alone. THE STATEMENT IS 'FnRangeProofToldSaid' (YtobnmgnnidhfkaaFmtCards.lean). -/
def FnRangeProofFormAsk : Prop := fnRangeProofRow.holds Tryf.pinned (OpenSpec.ofChange fnRangeProofSpec)

/-- ITS FALSE NEIGHBOUR: 'it returns false'. Refute it at one input. -/
def fnRangeProofWrong : ChangeSpec := { name := "fnRangeProof", fn := fun _ => fun
  | [d1, d2, d3] => { results := [.lit (.bool false)], args := [d1, d2, d3] }
  | _ => none }
def FnRangeProofWrongFormAsk : Prop := fnRangeProofRow.holds Tryf.pinned (OpenSpec.ofChange fnRangeProofWrong)

/-- 'laws.FnRangeInclusion': WHATEVER THE INPUT: true; the input reads as it did. -/
def fnRangeInclusionSpec : ChangeSpec := { name := "fnRangeInclusion", fn := fun _ => fun
  | [d1, d2, d3] => { results := [.lit (.bool true)], args := [d1, d2, d3] }
  | _ => none }
def fnRangeInclusionRow : OpenClaim := { program := "ytobnmgnnidhfkaafmt", sum := "229c42d5a9fbe2dfa01bfd5061a47093749eebef69fb76ea6cc5aaed021fd2a6", func := "loop.example/pub-logproofs/laws.FnRangeInclusion", spec := "fnRangeInclusion", stops := ["fmt.errorf"], inPlace := ["fmt.errorf", "internal/reflectlite.ValueOf", "(internal/reflectlite.Value).Type", "(internal/reflectlite.Value).IsNil", "internal/reflectlite.TypeOf", "(internal/reflectlite.Value).Elem", "(internal/reflectlite.Value).Set"], unfollowed := true, recurses := true, named := ["math/bits.deBruijn64tab", "errors.errorType"], apart := false, laid := [("math/bits.deBruijn64tab", laid_math_bits_deBruijn64tab), ("errors.errorType", laid_errors_errorType)] }
/-- NO THEOREM (fmt's text is open here; it may be false): for the released tool's asking of the row's closed facts alone. THE STATEMENT IS 'FnRangeInclusionToldSaid' (YtobnmgnnidhfkaaFmtCards.lean). -/
def FnRangeInclusionFormAsk : Prop := fnRangeInclusionRow.holds Tryf.pinned (OpenSpec.ofChange fnRangeInclusionSpec)

/-- ITS FALSE NEIGHBOUR: 'it returns false'. Refute it at one input. -/
def fnRangeInclusionWrong : ChangeSpec := { name := "fnRangeInclusion", fn := fun _ => fun
  | [d1, d2, d3] => { results := [.lit (.bool false)], args := [d1, d2, d3] }
  | _ => none }
def FnRangeInclusionWrongFormAsk : Prop := fnRangeInclusionRow.holds Tryf.pinned (OpenSpec.ofChange fnRangeInclusionWrong)

/-- 'laws.FnRangeConsistency': WHATEVER THE INPUT: true; the input reads as it did. -/
def fnRangeConsistencySpec : ChangeSpec := { name := "fnRangeConsistency", fn := fun _ => fun
  | [d1, d2, d3] => { results := [.lit (.bool true)], args := [d1, d2, d3] }
  | _ => none }
def fnRangeConsistencyRow : OpenClaim := { program := "ytobnmgnnidhfkaafmt", sum := "229c42d5a9fbe2dfa01bfd5061a47093749eebef69fb76ea6cc5aaed021fd2a6", func := "loop.example/pub-logproofs/laws.FnRangeConsistency", spec := "fnRangeConsistency", stops := ["fmt.errorf"], inPlace := ["fmt.errorf", "internal/reflectlite.ValueOf", "(internal/reflectlite.Value).Type", "(internal/reflectlite.Value).IsNil", "internal/reflectlite.TypeOf", "(internal/reflectlite.Value).Elem", "(internal/reflectlite.Value).Set"], unfollowed := true, recurses := true, named := ["math/bits.deBruijn64tab", "errors.errorType"], apart := false, laid := [("math/bits.deBruijn64tab", laid_math_bits_deBruijn64tab), ("errors.errorType", laid_errors_errorType)] }
/-- NO THEOREM (fmt's text is open here; it may be false): for the released tool's asking of the row's closed facts alone. THE STATEMENT IS 'FnRangeConsistencyToldSaid' (YtobnmgnnidhfkaaFmtCards.lean). -/
def FnRangeConsistencyFormAsk : Prop := fnRangeConsistencyRow.holds Tryf.pinned (OpenSpec.ofChange fnRangeConsistencySpec)

/-- ITS FALSE NEIGHBOUR: 'it returns false'. Refute it at one input. -/
def fnRangeConsistencyWrong : ChangeSpec := { name := "fnRangeConsistency", fn := fun _ => fun
  | [d1, d2, d3] => { results := [.lit (.bool false)], args := [d1, d2, d3] }
  | _ => none }
def FnRangeConsistencyWrongFormAsk : Prop := fnRangeConsistencyRow.holds Tryf.pinned (OpenSpec.ofChange fnRangeConsistencyWrong)

end Rows
end Go.Proofs.YtobnmgnnidhfkaaFmt
