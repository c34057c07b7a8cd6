/-
  NARROWER THAN 'FOR EVERY INPUT', by the rows' own cells (each row's printed sentence says how): FnInclusionEphem: laid · FnInclusionNodes: laid · FnInclusionPerfect: laid · FnInclusionOther: laid · FnConsistencyEphem: laid · FnConsistencyEqual: laid · FnConsistencyNodes: laid · FnInclusionRehash: laid · FnRehashCount: laid · FnRehashLength: laid · FnConsistencyRehash: laid · FnRehashLengthConsistency: laid.
  DERIVED. THE GIVEN ROWS OF THIS SEAT. 12 by the template 'for every input the law returns true; each argument reads behind the call as it read before'; 0 by the template 'total and deterministic' (their statements: YtniodnkejpbheaaFmtTotals.lean).
  GIVEN WITH THE SEED: the statements are not yours to turn. If you find one false, say at which input.
  Laid BY PROGRAM, IN A SANDBOX (cutbox-rows.mjs): the forced cells as the released guide's own fill.sh prints them over the translation 15456bd8230a4601… (all of the seat's roots in one cut). By AI agents, Wed Nov 11 2026. No macro, syntax, notation, axiom, sorry.
-/
import Derived.Test.YtniodnkejpbheaaFmtChecked
import GoSem.Claim
import GoSem.ClaimJoined
import GoSem.ClaimMapViews
import Derived.JoinedTies
import Derived.KernelRfl
namespace Go.Proofs.YtniodnkejpbheaaFmt
/- THE CELL 'sum', in the pinned program and in every row, IS THE sha256 OF THE DUMP (.gsa) THAT YtniodnkejpbheaaFmtProg.lean LOADS. Nothing in Lean hashes anything: it is a label: what it is worth is what the hold of that sum in a sandbox is worth. -/
noncomputable def Tryf.pinned : Pinned := { name := "ytniodnkejpbheaafmt", sum := "15456bd8230a4601bece327443f84d3e429044af4cb677fd4c02a7a678bd78a5", checked := Tryf.checked }
namespace Rows
def none {H : Type} : Left H := { results := [], args := [] }

/- WHAT THE LISTED PACKAGE-LEVEL VARIABLES READ AS WHEN THE CALL BEGINS. Each datum BY PROGRAM (the guide's laid-datum.mjs) off the statement by which the dump's own 'gosem.cut.vars' lays the variable. In a bare row this is a premise. The card (YtniodnkejpbheaaFmtCards.lean) ties it to the program's text. -/
def laid_math_bits_deBruijn64tab {H : Type} : DataW H := .agg [.lit (.int .u8 0), .lit (.int .u8 1), .lit (.int .u8 56), .lit (.int .u8 2), .lit (.int .u8 57), .lit (.int .u8 49), .lit (.int .u8 28), .lit (.int .u8 3), .lit (.int .u8 61), .lit (.int .u8 58), .lit (.int .u8 42), .lit (.int .u8 50), .lit (.int .u8 38), .lit (.int .u8 29), .lit (.int .u8 17), .lit (.int .u8 4), .lit (.int .u8 62), .lit (.int .u8 47), .lit (.int .u8 59), .lit (.int .u8 36), .lit (.int .u8 45), .lit (.int .u8 43), .lit (.int .u8 51), .lit (.int .u8 22), .lit (.int .u8 53), .lit (.int .u8 39), .lit (.int .u8 33), .lit (.int .u8 30), .lit (.int .u8 24), .lit (.int .u8 18), .lit (.int .u8 12), .lit (.int .u8 5), .lit (.int .u8 63), .lit (.int .u8 55), .lit (.int .u8 48), .lit (.int .u8 27), .lit (.int .u8 60), .lit (.int .u8 41), .lit (.int .u8 37), .lit (.int .u8 16), .lit (.int .u8 46), .lit (.int .u8 35), .lit (.int .u8 44), .lit (.int .u8 21), .lit (.int .u8 52), .lit (.int .u8 32), .lit (.int .u8 23), .lit (.int .u8 11), .lit (.int .u8 54), .lit (.int .u8 26), .lit (.int .u8 40), .lit (.int .u8 15), .lit (.int .u8 34), .lit (.int .u8 20), .lit (.int .u8 31), .lit (.int .u8 10), .lit (.int .u8 25), .lit (.int .u8 14), .lit (.int .u8 19), .lit (.int .u8 9), .lit (.int .u8 13), .lit (.int .u8 8), .lit (.int .u8 7), .lit (.int .u8 6)]
def laid_errors_errorType {H : Type} : DataW H := .iface "internal/reflectlite.rtype" (.agg [.ptr (.lit (.string [101, 114, 114, 111, 114]))])

/-- 'laws.FnInclusionEphem': WHATEVER THE INPUT: true; the input reads as it did. -/
def fnInclusionEphemSpec : ChangeSpec := { name := "fnInclusionEphem", fn := fun _ => fun
  | [d1, d2] => { results := [.lit (.bool true)], args := [d1, d2] }
  | _ => none }
def fnInclusionEphemRow : OpenClaim := { program := "ytniodnkejpbheaafmt", sum := "15456bd8230a4601bece327443f84d3e429044af4cb677fd4c02a7a678bd78a5", func := "loop.example/pub-logproofs/laws.FnInclusionEphem", spec := "fnInclusionEphem", stops := ["fmt.errorf"], inPlace := ["fmt.errorf"], named := ["math/bits.deBruijn64tab"], apart := false, laid := [("math/bits.deBruijn64tab", laid_math_bits_deBruijn64tab)] }
/-- NO THEOREM (fmt's text is open here; it may be false): for the released tool's asking of the row's closed facts alone. THE STATEMENT IS 'FnInclusionEphemToldSaid' (YtniodnkejpbheaaFmtCards.lean). -/
def FnInclusionEphemFormAsk : Prop := fnInclusionEphemRow.holds Tryf.pinned (OpenSpec.ofChange fnInclusionEphemSpec)

/-- ITS FALSE NEIGHBOUR: 'it returns false'. Refute it at one input. -/
def fnInclusionEphemWrong : ChangeSpec := { name := "fnInclusionEphem", fn := fun _ => fun
  | [d1, d2] => { results := [.lit (.bool false)], args := [d1, d2] }
  | _ => none }
def FnInclusionEphemWrongFormAsk : Prop := fnInclusionEphemRow.holds Tryf.pinned (OpenSpec.ofChange fnInclusionEphemWrong)

/-- 'laws.FnInclusionNodes': WHATEVER THE INPUT: true; the input reads as it did. -/
def fnInclusionNodesSpec : ChangeSpec := { name := "fnInclusionNodes", fn := fun _ => fun
  | [d1, d2] => { results := [.lit (.bool true)], args := [d1, d2] }
  | _ => none }
def fnInclusionNodesRow : OpenClaim := { program := "ytniodnkejpbheaafmt", sum := "15456bd8230a4601bece327443f84d3e429044af4cb677fd4c02a7a678bd78a5", func := "loop.example/pub-logproofs/laws.FnInclusionNodes", spec := "fnInclusionNodes", stops := ["fmt.errorf"], inPlace := ["fmt.errorf"], named := ["math/bits.deBruijn64tab"], apart := false, laid := [("math/bits.deBruijn64tab", laid_math_bits_deBruijn64tab)] }
/-- NO THEOREM (fmt's text is open here; it may be false): for the released tool's asking of the row's closed facts alone. THE STATEMENT IS 'FnInclusionNodesToldSaid' (YtniodnkejpbheaaFmtCards.lean). -/
def FnInclusionNodesFormAsk : Prop := fnInclusionNodesRow.holds Tryf.pinned (OpenSpec.ofChange fnInclusionNodesSpec)

/-- ITS FALSE NEIGHBOUR: 'it returns false'. Refute it at one input. -/
def fnInclusionNodesWrong : ChangeSpec := { name := "fnInclusionNodes", fn := fun _ => fun
  | [d1, d2] => { results := [.lit (.bool false)], args := [d1, d2] }
  | _ => none }
def FnInclusionNodesWrongFormAsk : Prop := fnInclusionNodesRow.holds Tryf.pinned (OpenSpec.ofChange fnInclusionNodesWrong)

/-- 'laws.FnInclusionPerfect': WHATEVER THE INPUT: true; the input reads as it did. -/
def fnInclusionPerfectSpec : ChangeSpec := { name := "fnInclusionPerfect", fn := fun _ => fun
  | [d1, d2] => { results := [.lit (.bool true)], args := [d1, d2] }
  | _ => none }
def fnInclusionPerfectRow : OpenClaim := { program := "ytniodnkejpbheaafmt", sum := "15456bd8230a4601bece327443f84d3e429044af4cb677fd4c02a7a678bd78a5", func := "loop.example/pub-logproofs/laws.FnInclusionPerfect", spec := "fnInclusionPerfect", stops := ["fmt.errorf"], inPlace := ["fmt.errorf"], named := ["math/bits.deBruijn64tab"], apart := false, laid := [("math/bits.deBruijn64tab", laid_math_bits_deBruijn64tab)] }
/-- NO THEOREM (fmt's text is open here; it may be false): for the released tool's asking of the row's closed facts alone. THE STATEMENT IS 'FnInclusionPerfectToldSaid' (YtniodnkejpbheaaFmtCards.lean). -/
def FnInclusionPerfectFormAsk : Prop := fnInclusionPerfectRow.holds Tryf.pinned (OpenSpec.ofChange fnInclusionPerfectSpec)

/-- ITS FALSE NEIGHBOUR: 'it returns false'. Refute it at one input. -/
def fnInclusionPerfectWrong : ChangeSpec := { name := "fnInclusionPerfect", fn := fun _ => fun
  | [d1, d2] => { results := [.lit (.bool false)], args := [d1, d2] }
  | _ => none }
def FnInclusionPerfectWrongFormAsk : Prop := fnInclusionPerfectRow.holds Tryf.pinned (OpenSpec.ofChange fnInclusionPerfectWrong)

/-- 'laws.FnInclusionOther': WHATEVER THE INPUT: true; the input reads as it did. -/
def fnInclusionOtherSpec : ChangeSpec := { name := "fnInclusionOther", fn := fun _ => fun
  | [d1, d2] => { results := [.lit (.bool true)], args := [d1, d2] }
  | _ => none }
def fnInclusionOtherRow : OpenClaim := { program := "ytniodnkejpbheaafmt", sum := "15456bd8230a4601bece327443f84d3e429044af4cb677fd4c02a7a678bd78a5", func := "loop.example/pub-logproofs/laws.FnInclusionOther", spec := "fnInclusionOther", stops := ["fmt.errorf"], inPlace := ["fmt.errorf"], named := ["math/bits.deBruijn64tab"], apart := false, laid := [("math/bits.deBruijn64tab", laid_math_bits_deBruijn64tab)] }
/-- NO THEOREM (fmt's text is open here; it may be false): for the released tool's asking of the row's closed facts alone. THE STATEMENT IS 'FnInclusionOtherToldSaid' (YtniodnkejpbheaaFmtCards.lean). -/
def FnInclusionOtherFormAsk : Prop := fnInclusionOtherRow.holds Tryf.pinned (OpenSpec.ofChange fnInclusionOtherSpec)

/-- ITS FALSE NEIGHBOUR: 'it returns false'. Refute it at one input. -/
def fnInclusionOtherWrong : ChangeSpec := { name := "fnInclusionOther", fn := fun _ => fun
  | [d1, d2] => { results := [.lit (.bool false)], args := [d1, d2] }
  | _ => none }
def FnInclusionOtherWrongFormAsk : Prop := fnInclusionOtherRow.holds Tryf.pinned (OpenSpec.ofChange fnInclusionOtherWrong)

/-- 'laws.FnConsistencyEphem': WHATEVER THE INPUT: true; the input reads as it did. -/
def fnConsistencyEphemSpec : ChangeSpec := { name := "fnConsistencyEphem", fn := fun _ => fun
  | [d1, d2] => { results := [.lit (.bool true)], args := [d1, d2] }
  | _ => none }
def fnConsistencyEphemRow : OpenClaim := { program := "ytniodnkejpbheaafmt", sum := "15456bd8230a4601bece327443f84d3e429044af4cb677fd4c02a7a678bd78a5", func := "loop.example/pub-logproofs/laws.FnConsistencyEphem", spec := "fnConsistencyEphem", stops := ["fmt.errorf"], inPlace := ["fmt.errorf"], named := ["math/bits.deBruijn64tab"], apart := false, laid := [("math/bits.deBruijn64tab", laid_math_bits_deBruijn64tab)] }
/-- NO THEOREM (fmt's text is open here; it may be false): for the released tool's asking of the row's closed facts alone. THE STATEMENT IS 'FnConsistencyEphemToldSaid' (YtniodnkejpbheaaFmtCards.lean). -/
def FnConsistencyEphemFormAsk : Prop := fnConsistencyEphemRow.holds Tryf.pinned (OpenSpec.ofChange fnConsistencyEphemSpec)

/-- ITS FALSE NEIGHBOUR: 'it returns false'. Refute it at one input. -/
def fnConsistencyEphemWrong : ChangeSpec := { name := "fnConsistencyEphem", fn := fun _ => fun
  | [d1, d2] => { results := [.lit (.bool false)], args := [d1, d2] }
  | _ => none }
def FnConsistencyEphemWrongFormAsk : Prop := fnConsistencyEphemRow.holds Tryf.pinned (OpenSpec.ofChange fnConsistencyEphemWrong)

/-- 'laws.FnConsistencyEqual': WHATEVER THE INPUT: true; the input reads as it did. -/
def fnConsistencyEqualSpec : ChangeSpec := { name := "fnConsistencyEqual", fn := fun _ => fun
  | [d] => { results := [.lit (.bool true)], args := [d] }
  | _ => none }
def fnConsistencyEqualRow : OpenClaim := { program := "ytniodnkejpbheaafmt", sum := "15456bd8230a4601bece327443f84d3e429044af4cb677fd4c02a7a678bd78a5", func := "loop.example/pub-logproofs/laws.FnConsistencyEqual", spec := "fnConsistencyEqual", stops := ["fmt.errorf"], inPlace := ["fmt.errorf"], named := ["math/bits.deBruijn64tab"], apart := false, laid := [("math/bits.deBruijn64tab", laid_math_bits_deBruijn64tab)] }
/-- NO THEOREM (fmt's text is open here; it may be false): for the released tool's asking of the row's closed facts alone. THE STATEMENT IS 'FnConsistencyEqualToldSaid' (YtniodnkejpbheaaFmtCards.lean). -/
def FnConsistencyEqualFormAsk : Prop := fnConsistencyEqualRow.holds Tryf.pinned (OpenSpec.ofChange fnConsistencyEqualSpec)

/-- ITS FALSE NEIGHBOUR: 'it returns false'. Refute it at one input. -/
def fnConsistencyEqualWrong : ChangeSpec := { name := "fnConsistencyEqual", fn := fun _ => fun
  | [d] => { results := [.lit (.bool false)], args := [d] }
  | _ => none }
def FnConsistencyEqualWrongFormAsk : Prop := fnConsistencyEqualRow.holds Tryf.pinned (OpenSpec.ofChange fnConsistencyEqualWrong)

/-- 'laws.FnConsistencyNodes': WHATEVER THE INPUT: true; the input reads as it did. -/
def fnConsistencyNodesSpec : ChangeSpec := { name := "fnConsistencyNodes", fn := fun _ => fun
  | [d1, d2] => { results := [.lit (.bool true)], args := [d1, d2] }
  | _ => none }
def fnConsistencyNodesRow : OpenClaim := { program := "ytniodnkejpbheaafmt", sum := "15456bd8230a4601bece327443f84d3e429044af4cb677fd4c02a7a678bd78a5", func := "loop.example/pub-logproofs/laws.FnConsistencyNodes", spec := "fnConsistencyNodes", stops := ["fmt.errorf"], inPlace := ["fmt.errorf"], named := ["math/bits.deBruijn64tab"], apart := false, laid := [("math/bits.deBruijn64tab", laid_math_bits_deBruijn64tab)] }
/-- NO THEOREM (fmt's text is open here; it may be false): for the released tool's asking of the row's closed facts alone. THE STATEMENT IS 'FnConsistencyNodesToldSaid' (YtniodnkejpbheaaFmtCards.lean). -/
def FnConsistencyNodesFormAsk : Prop := fnConsistencyNodesRow.holds Tryf.pinned (OpenSpec.ofChange fnConsistencyNodesSpec)

/-- ITS FALSE NEIGHBOUR: 'it returns false'. Refute it at one input. -/
def fnConsistencyNodesWrong : ChangeSpec := { name := "fnConsistencyNodes", fn := fun _ => fun
  | [d1, d2] => { results := [.lit (.bool false)], args := [d1, d2] }
  | _ => none }
def FnConsistencyNodesWrongFormAsk : Prop := fnConsistencyNodesRow.holds Tryf.pinned (OpenSpec.ofChange fnConsistencyNodesWrong)

/-- 'laws.FnInclusionRehash': WHATEVER THE INPUT: true; the input reads as it did. -/
def fnInclusionRehashSpec : ChangeSpec := { name := "fnInclusionRehash", fn := fun _ => fun
  | [d1, d2, d3] => { results := [.lit (.bool true)], args := [d1, d2, d3] }
  | _ => none }
def fnInclusionRehashRow : OpenClaim := { program := "ytniodnkejpbheaafmt", sum := "15456bd8230a4601bece327443f84d3e429044af4cb677fd4c02a7a678bd78a5", func := "loop.example/pub-logproofs/laws.FnInclusionRehash", spec := "fnInclusionRehash", stops := ["fmt.errorf"], inPlace := ["fmt.errorf", "internal/reflectlite.ValueOf", "(internal/reflectlite.Value).Type", "(internal/reflectlite.Value).IsNil", "internal/reflectlite.TypeOf", "(internal/reflectlite.Value).Elem", "(internal/reflectlite.Value).Set"], unfollowed := true, recurses := true, named := ["math/bits.deBruijn64tab", "errors.errorType"], apart := false, laid := [("math/bits.deBruijn64tab", laid_math_bits_deBruijn64tab), ("errors.errorType", laid_errors_errorType)] }
/-- NO THEOREM (fmt's text is open here; it may be false): for the released tool's asking of the row's closed facts alone. THE STATEMENT IS 'FnInclusionRehashToldSaid' (YtniodnkejpbheaaFmtCards.lean). -/
def FnInclusionRehashFormAsk : Prop := fnInclusionRehashRow.holds Tryf.pinned (OpenSpec.ofChange fnInclusionRehashSpec)

/-- ITS FALSE NEIGHBOUR: 'it returns false'. Refute it at one input. -/
def fnInclusionRehashWrong : ChangeSpec := { name := "fnInclusionRehash", fn := fun _ => fun
  | [d1, d2, d3] => { results := [.lit (.bool false)], args := [d1, d2, d3] }
  | _ => none }
def FnInclusionRehashWrongFormAsk : Prop := fnInclusionRehashRow.holds Tryf.pinned (OpenSpec.ofChange fnInclusionRehashWrong)

/-- 'laws.FnRehashCount': WHATEVER THE INPUT: true; the input reads as it did. -/
def fnRehashCountSpec : ChangeSpec := { name := "fnRehashCount", fn := fun _ => fun
  | [d1, d2, d3, d4] => { results := [.lit (.bool true)], args := [d1, d2, d3, d4] }
  | _ => none }
def fnRehashCountRow : OpenClaim := { program := "ytniodnkejpbheaafmt", sum := "15456bd8230a4601bece327443f84d3e429044af4cb677fd4c02a7a678bd78a5", func := "loop.example/pub-logproofs/laws.FnRehashCount", spec := "fnRehashCount", stops := ["fmt.errorf"], inPlace := ["fmt.errorf", "internal/reflectlite.ValueOf", "(internal/reflectlite.Value).Type", "(internal/reflectlite.Value).IsNil", "internal/reflectlite.TypeOf", "(internal/reflectlite.Value).Elem", "(internal/reflectlite.Value).Set"], unfollowed := true, recurses := true, named := ["math/bits.deBruijn64tab", "errors.errorType"], apart := false, laid := [("math/bits.deBruijn64tab", laid_math_bits_deBruijn64tab), ("errors.errorType", laid_errors_errorType)] }
/-- NO THEOREM (fmt's text is open here; it may be false): for the released tool's asking of the row's closed facts alone. THE STATEMENT IS 'FnRehashCountToldSaid' (YtniodnkejpbheaaFmtCards.lean). -/
def FnRehashCountFormAsk : Prop := fnRehashCountRow.holds Tryf.pinned (OpenSpec.ofChange fnRehashCountSpec)

/-- ITS FALSE NEIGHBOUR: 'it returns false'. Refute it at one input. -/
def fnRehashCountWrong : ChangeSpec := { name := "fnRehashCount", fn := fun _ => fun
  | [d1, d2, d3, d4] => { results := [.lit (.bool false)], args := [d1, d2, d3, d4] }
  | _ => none }
def FnRehashCountWrongFormAsk : Prop := fnRehashCountRow.holds Tryf.pinned (OpenSpec.ofChange fnRehashCountWrong)

/-- 'laws.FnRehashLength': WHATEVER THE INPUT: true; the input reads as it did. -/
def fnRehashLengthSpec : ChangeSpec := { name := "fnRehashLength", fn := fun _ => fun
  | [d1, d2, d3, d4] => { results := [.lit (.bool true)], args := [d1, d2, d3, d4] }
  | _ => none }
def fnRehashLengthRow : OpenClaim := { program := "ytniodnkejpbheaafmt", sum := "15456bd8230a4601bece327443f84d3e429044af4cb677fd4c02a7a678bd78a5", func := "loop.example/pub-logproofs/laws.FnRehashLength", spec := "fnRehashLength", stops := ["fmt.errorf"], inPlace := ["fmt.errorf", "internal/reflectlite.ValueOf", "(internal/reflectlite.Value).Type", "(internal/reflectlite.Value).IsNil", "internal/reflectlite.TypeOf", "(internal/reflectlite.Value).Elem", "(internal/reflectlite.Value).Set"], unfollowed := true, recurses := true, named := ["math/bits.deBruijn64tab", "errors.errorType"], apart := false, laid := [("math/bits.deBruijn64tab", laid_math_bits_deBruijn64tab), ("errors.errorType", laid_errors_errorType)] }
/-- NO THEOREM (fmt's text is open here; it may be false): for the released tool's asking of the row's closed facts alone. THE STATEMENT IS 'FnRehashLengthToldSaid' (YtniodnkejpbheaaFmtCards.lean). -/
def FnRehashLengthFormAsk : Prop := fnRehashLengthRow.holds Tryf.pinned (OpenSpec.ofChange fnRehashLengthSpec)

/-- ITS FALSE NEIGHBOUR: 'it returns false'. Refute it at one input. -/
def fnRehashLengthWrong : ChangeSpec := { name := "fnRehashLength", fn := fun _ => fun
  | [d1, d2, d3, d4] => { results := [.lit (.bool false)], args := [d1, d2, d3, d4] }
  | _ => none }
def FnRehashLengthWrongFormAsk : Prop := fnRehashLengthRow.holds Tryf.pinned (OpenSpec.ofChange fnRehashLengthWrong)

/-- 'laws.FnConsistencyRehash': WHATEVER THE INPUT: true; the input reads as it did. -/
def fnConsistencyRehashSpec : ChangeSpec := { name := "fnConsistencyRehash", fn := fun _ => fun
  | [d1, d2, d3] => { results := [.lit (.bool true)], args := [d1, d2, d3] }
  | _ => none }
def fnConsistencyRehashRow : OpenClaim := { program := "ytniodnkejpbheaafmt", sum := "15456bd8230a4601bece327443f84d3e429044af4cb677fd4c02a7a678bd78a5", func := "loop.example/pub-logproofs/laws.FnConsistencyRehash", spec := "fnConsistencyRehash", stops := ["fmt.errorf"], inPlace := ["fmt.errorf", "internal/reflectlite.ValueOf", "(internal/reflectlite.Value).Type", "(internal/reflectlite.Value).IsNil", "internal/reflectlite.TypeOf", "(internal/reflectlite.Value).Elem", "(internal/reflectlite.Value).Set"], unfollowed := true, recurses := true, named := ["math/bits.deBruijn64tab", "errors.errorType"], apart := false, laid := [("math/bits.deBruijn64tab", laid_math_bits_deBruijn64tab), ("errors.errorType", laid_errors_errorType)] }
/-- NO THEOREM (fmt's text is open here; it may be false): for the released tool's asking of the row's closed facts alone. THE STATEMENT IS 'FnConsistencyRehashToldSaid' (YtniodnkejpbheaaFmtCards.lean). -/
def FnConsistencyRehashFormAsk : Prop := fnConsistencyRehashRow.holds Tryf.pinned (OpenSpec.ofChange fnConsistencyRehashSpec)

/-- ITS FALSE NEIGHBOUR: 'it returns false'. Refute it at one input. -/
def fnConsistencyRehashWrong : ChangeSpec := { name := "fnConsistencyRehash", fn := fun _ => fun
  | [d1, d2, d3] => { results := [.lit (.bool false)], args := [d1, d2, d3] }
  | _ => none }
def FnConsistencyRehashWrongFormAsk : Prop := fnConsistencyRehashRow.holds Tryf.pinned (OpenSpec.ofChange fnConsistencyRehashWrong)

/-- 'laws.FnRehashLengthConsistency': WHATEVER THE INPUT: true; the input reads as it did. -/
def fnRehashLengthConsistencySpec : ChangeSpec := { name := "fnRehashLengthConsistency", fn := fun _ => fun
  | [d1, d2, d3, d4] => { results := [.lit (.bool true)], args := [d1, d2, d3, d4] }
  | _ => none }
def fnRehashLengthConsistencyRow : OpenClaim := { program := "ytniodnkejpbheaafmt", sum := "15456bd8230a4601bece327443f84d3e429044af4cb677fd4c02a7a678bd78a5", func := "loop.example/pub-logproofs/laws.FnRehashLengthConsistency", spec := "fnRehashLengthConsistency", stops := ["fmt.errorf"], inPlace := ["fmt.errorf", "internal/reflectlite.ValueOf", "(internal/reflectlite.Value).Type", "(internal/reflectlite.Value).IsNil", "internal/reflectlite.TypeOf", "(internal/reflectlite.Value).Elem", "(internal/reflectlite.Value).Set"], unfollowed := true, recurses := true, named := ["math/bits.deBruijn64tab", "errors.errorType"], apart := false, laid := [("math/bits.deBruijn64tab", laid_math_bits_deBruijn64tab), ("errors.errorType", laid_errors_errorType)] }
/-- NO THEOREM (fmt's text is open here; it may be false): for the released tool's asking of the row's closed facts alone. THE STATEMENT IS 'FnRehashLengthConsistencyToldSaid' (YtniodnkejpbheaaFmtCards.lean). -/
def FnRehashLengthConsistencyFormAsk : Prop := fnRehashLengthConsistencyRow.holds Tryf.pinned (OpenSpec.ofChange fnRehashLengthConsistencySpec)

/-- ITS FALSE NEIGHBOUR: 'it returns false'. Refute it at one input. -/
def fnRehashLengthConsistencyWrong : ChangeSpec := { name := "fnRehashLengthConsistency", fn := fun _ => fun
  | [d1, d2, d3, d4] => { results := [.lit (.bool false)], args := [d1, d2, d3, d4] }
  | _ => none }
def FnRehashLengthConsistencyWrongFormAsk : Prop := fnRehashLengthConsistencyRow.holds Tryf.pinned (OpenSpec.ofChange fnRehashLengthConsistencyWrong)

end Rows
end Go.Proofs.YtniodnkejpbheaaFmt
