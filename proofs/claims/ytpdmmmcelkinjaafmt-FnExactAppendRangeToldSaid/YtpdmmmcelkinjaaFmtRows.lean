/-
  NARROWER THAN 'FOR EVERY INPUT', by the rows' own cells (each row's printed sentence says how): FnNewRangeRoot: laid · FnExactNewRange: laid · FnAppendEdgeAll: laid · FnAppendRoot: laid · FnAppendGrown: laid · FnAppendNoRoot: laid · FnExactAppend: laid · FnAppendEdge: laid · FnAppendRangeGrown: laid · FnExactAppendRange: laid · FnAppendMaker: laid.
  DERIVED. THE GIVEN ROWS OF THIS SEAT. 11 by the template 'for every input the law returns true; each argument reads behind the call as it read before'; 0 by the template 'total and deterministic' (their statements: YtpdmmmcelkinjaaFmtTotals.lean).
  GIVEN WITH THE SEED: the statements are not yours to turn. If you find one false, say at which input.
  Laid BY PROGRAM, IN A SANDBOX (cutbox-rows.mjs): the forced cells as the released guide's own fill.sh prints them over the translation 5ef39bcfe5fc6476… (all of the seat's roots in one cut). By AI agents, Wed Nov 11 2026. No macro, syntax, notation, axiom, sorry.
-/
import Derived.Test.YtpdmmmcelkinjaaFmtChecked
import GoSem.Claim
import GoSem.ClaimJoined
import GoSem.ClaimMapViews
import Derived.JoinedTies
import Derived.KernelRfl
namespace Go.Proofs.YtpdmmmcelkinjaaFmt
/- THE CELL 'sum', in the pinned program and in every row, IS THE sha256 OF THE DUMP (.gsa) THAT YtpdmmmcelkinjaaFmtProg.lean LOADS. Nothing in Lean hashes anything: it is a label: what it is worth is what the hold of that sum in a sandbox is worth. -/
noncomputable def Tryf.pinned : Pinned := { name := "ytpdmmmcelkinjaafmt", sum := "5ef39bcfe5fc6476a158d732e2c457e47042d17491912a3d69ddfd2b1fe6de80", checked := Tryf.checked }
namespace Rows
def none {H : Type} : Left H := { results := [], args := [] }

/- WHAT THE LISTED PACKAGE-LEVEL VARIABLES READ AS WHEN THE CALL BEGINS. Each datum BY PROGRAM (the guide's laid-datum.mjs) off the statement by which the dump's own 'gosem.cut.vars' lays the variable. In a bare row this is a premise. The card (YtpdmmmcelkinjaaFmtCards.lean) ties it to the program's text. -/
def laid_math_bits_deBruijn64tab {H : Type} : DataW H := .agg [.lit (.int .u8 0), .lit (.int .u8 1), .lit (.int .u8 56), .lit (.int .u8 2), .lit (.int .u8 57), .lit (.int .u8 49), .lit (.int .u8 28), .lit (.int .u8 3), .lit (.int .u8 61), .lit (.int .u8 58), .lit (.int .u8 42), .lit (.int .u8 50), .lit (.int .u8 38), .lit (.int .u8 29), .lit (.int .u8 17), .lit (.int .u8 4), .lit (.int .u8 62), .lit (.int .u8 47), .lit (.int .u8 59), .lit (.int .u8 36), .lit (.int .u8 45), .lit (.int .u8 43), .lit (.int .u8 51), .lit (.int .u8 22), .lit (.int .u8 53), .lit (.int .u8 39), .lit (.int .u8 33), .lit (.int .u8 30), .lit (.int .u8 24), .lit (.int .u8 18), .lit (.int .u8 12), .lit (.int .u8 5), .lit (.int .u8 63), .lit (.int .u8 55), .lit (.int .u8 48), .lit (.int .u8 27), .lit (.int .u8 60), .lit (.int .u8 41), .lit (.int .u8 37), .lit (.int .u8 16), .lit (.int .u8 46), .lit (.int .u8 35), .lit (.int .u8 44), .lit (.int .u8 21), .lit (.int .u8 52), .lit (.int .u8 32), .lit (.int .u8 23), .lit (.int .u8 11), .lit (.int .u8 54), .lit (.int .u8 26), .lit (.int .u8 40), .lit (.int .u8 15), .lit (.int .u8 34), .lit (.int .u8 20), .lit (.int .u8 31), .lit (.int .u8 10), .lit (.int .u8 25), .lit (.int .u8 14), .lit (.int .u8 19), .lit (.int .u8 9), .lit (.int .u8 13), .lit (.int .u8 8), .lit (.int .u8 7), .lit (.int .u8 6)]

/-- 'laws.FnNewRangeRoot': WHATEVER THE INPUT: true; the input reads as it did. -/
def fnNewRangeRootSpec : ChangeSpec := { name := "fnNewRangeRoot", fn := fun _ => fun
  | [d1, d2] => { results := [.lit (.bool true)], args := [d1, d2] }
  | _ => none }
def fnNewRangeRootRow : OpenClaim := { program := "ytpdmmmcelkinjaafmt", sum := "5ef39bcfe5fc6476a158d732e2c457e47042d17491912a3d69ddfd2b1fe6de80", func := "loop.example/pub-logproofs/laws.FnNewRangeRoot", spec := "fnNewRangeRoot", stops := ["fmt.errorf"], inPlace := ["fmt.errorf"], unfollowed := true, recurses := true, named := ["math/bits.deBruijn64tab"], apart := false, laid := [("math/bits.deBruijn64tab", laid_math_bits_deBruijn64tab)] }
/-- NO THEOREM (fmt's text is open here; it may be false): for the released tool's asking of the row's closed facts alone. THE STATEMENT IS 'FnNewRangeRootToldSaid' (YtpdmmmcelkinjaaFmtCards.lean). -/
def FnNewRangeRootFormAsk : Prop := fnNewRangeRootRow.holds Tryf.pinned (OpenSpec.ofChange fnNewRangeRootSpec)

/-- ITS FALSE NEIGHBOUR: 'it returns false'. Refute it at one input. -/
def fnNewRangeRootWrong : ChangeSpec := { name := "fnNewRangeRoot", fn := fun _ => fun
  | [d1, d2] => { results := [.lit (.bool false)], args := [d1, d2] }
  | _ => none }
def FnNewRangeRootWrongFormAsk : Prop := fnNewRangeRootRow.holds Tryf.pinned (OpenSpec.ofChange fnNewRangeRootWrong)

/-- 'laws.FnExactNewRange': WHATEVER THE INPUT: true; the input reads as it did. -/
def fnExactNewRangeSpec : ChangeSpec := { name := "fnExactNewRange", fn := fun _ => fun
  | [d1, d2, d3, d4] => { results := [.lit (.bool true)], args := [d1, d2, d3, d4] }
  | _ => none }
def fnExactNewRangeRow : OpenClaim := { program := "ytpdmmmcelkinjaafmt", sum := "5ef39bcfe5fc6476a158d732e2c457e47042d17491912a3d69ddfd2b1fe6de80", func := "loop.example/pub-logproofs/laws.FnExactNewRange", spec := "fnExactNewRange", stops := ["fmt.errorf"], inPlace := ["fmt.errorf"], unfollowed := true, recurses := true, named := ["math/bits.deBruijn64tab"], apart := false, laid := [("math/bits.deBruijn64tab", laid_math_bits_deBruijn64tab)] }
/-- NO THEOREM (fmt's text is open here; it may be false): for the released tool's asking of the row's closed facts alone. THE STATEMENT IS 'FnExactNewRangeToldSaid' (YtpdmmmcelkinjaaFmtCards.lean). -/
def FnExactNewRangeFormAsk : Prop := fnExactNewRangeRow.holds Tryf.pinned (OpenSpec.ofChange fnExactNewRangeSpec)

/-- ITS FALSE NEIGHBOUR: 'it returns false'. Refute it at one input. -/
def fnExactNewRangeWrong : ChangeSpec := { name := "fnExactNewRange", fn := fun _ => fun
  | [d1, d2, d3, d4] => { results := [.lit (.bool false)], args := [d1, d2, d3, d4] }
  | _ => none }
def FnExactNewRangeWrongFormAsk : Prop := fnExactNewRangeRow.holds Tryf.pinned (OpenSpec.ofChange fnExactNewRangeWrong)

/-- 'laws.FnAppendEdgeAll': WHATEVER THE INPUT: true; the input reads as it did. -/
def fnAppendEdgeAllSpec : ChangeSpec := { name := "fnAppendEdgeAll", fn := fun _ => fun
  | [d1, d2] => { results := [.lit (.bool true)], args := [d1, d2] }
  | _ => none }
def fnAppendEdgeAllRow : OpenClaim := { program := "ytpdmmmcelkinjaafmt", sum := "5ef39bcfe5fc6476a158d732e2c457e47042d17491912a3d69ddfd2b1fe6de80", func := "loop.example/pub-logproofs/laws.FnAppendEdgeAll", spec := "fnAppendEdgeAll", stops := ["fmt.errorf"], inPlace := ["fmt.errorf"], unfollowed := true, recurses := true, named := ["math/bits.deBruijn64tab"], apart := false, laid := [("math/bits.deBruijn64tab", laid_math_bits_deBruijn64tab)] }
/-- NO THEOREM (fmt's text is open here; it may be false): for the released tool's asking of the row's closed facts alone. THE STATEMENT IS 'FnAppendEdgeAllToldSaid' (YtpdmmmcelkinjaaFmtCards.lean). -/
def FnAppendEdgeAllFormAsk : Prop := fnAppendEdgeAllRow.holds Tryf.pinned (OpenSpec.ofChange fnAppendEdgeAllSpec)

/-- ITS FALSE NEIGHBOUR: 'it returns false'. Refute it at one input. -/
def fnAppendEdgeAllWrong : ChangeSpec := { name := "fnAppendEdgeAll", fn := fun _ => fun
  | [d1, d2] => { results := [.lit (.bool false)], args := [d1, d2] }
  | _ => none }
def FnAppendEdgeAllWrongFormAsk : Prop := fnAppendEdgeAllRow.holds Tryf.pinned (OpenSpec.ofChange fnAppendEdgeAllWrong)

/-- 'laws.FnAppendRoot': WHATEVER THE INPUT: true; the input reads as it did. -/
def fnAppendRootSpec : ChangeSpec := { name := "fnAppendRoot", fn := fun _ => fun
  | [d1, d2] => { results := [.lit (.bool true)], args := [d1, d2] }
  | _ => none }
def fnAppendRootRow : OpenClaim := { program := "ytpdmmmcelkinjaafmt", sum := "5ef39bcfe5fc6476a158d732e2c457e47042d17491912a3d69ddfd2b1fe6de80", func := "loop.example/pub-logproofs/laws.FnAppendRoot", spec := "fnAppendRoot", stops := ["fmt.errorf"], inPlace := ["fmt.errorf"], unfollowed := true, recurses := true, named := ["math/bits.deBruijn64tab"], apart := false, laid := [("math/bits.deBruijn64tab", laid_math_bits_deBruijn64tab)] }
/-- NO THEOREM (fmt's text is open here; it may be false): for the released tool's asking of the row's closed facts alone. THE STATEMENT IS 'FnAppendRootToldSaid' (YtpdmmmcelkinjaaFmtCards.lean). -/
def FnAppendRootFormAsk : Prop := fnAppendRootRow.holds Tryf.pinned (OpenSpec.ofChange fnAppendRootSpec)

/-- ITS FALSE NEIGHBOUR: 'it returns false'. Refute it at one input. -/
def fnAppendRootWrong : ChangeSpec := { name := "fnAppendRoot", fn := fun _ => fun
  | [d1, d2] => { results := [.lit (.bool false)], args := [d1, d2] }
  | _ => none }
def FnAppendRootWrongFormAsk : Prop := fnAppendRootRow.holds Tryf.pinned (OpenSpec.ofChange fnAppendRootWrong)

/-- 'laws.FnAppendGrown': WHATEVER THE INPUT: true; the input reads as it did. -/
def fnAppendGrownSpec : ChangeSpec := { name := "fnAppendGrown", fn := fun _ => fun
  | [d1, d2, d3] => { results := [.lit (.bool true)], args := [d1, d2, d3] }
  | _ => none }
def fnAppendGrownRow : OpenClaim := { program := "ytpdmmmcelkinjaafmt", sum := "5ef39bcfe5fc6476a158d732e2c457e47042d17491912a3d69ddfd2b1fe6de80", func := "loop.example/pub-logproofs/laws.FnAppendGrown", spec := "fnAppendGrown", stops := ["fmt.errorf"], inPlace := ["fmt.errorf"], unfollowed := true, recurses := true, named := ["math/bits.deBruijn64tab"], apart := false, laid := [("math/bits.deBruijn64tab", laid_math_bits_deBruijn64tab)] }
/-- NO THEOREM (fmt's text is open here; it may be false): for the released tool's asking of the row's closed facts alone. THE STATEMENT IS 'FnAppendGrownToldSaid' (YtpdmmmcelkinjaaFmtCards.lean). -/
def FnAppendGrownFormAsk : Prop := fnAppendGrownRow.holds Tryf.pinned (OpenSpec.ofChange fnAppendGrownSpec)

/-- ITS FALSE NEIGHBOUR: 'it returns false'. Refute it at one input. -/
def fnAppendGrownWrong : ChangeSpec := { name := "fnAppendGrown", fn := fun _ => fun
  | [d1, d2, d3] => { results := [.lit (.bool false)], args := [d1, d2, d3] }
  | _ => none }
def FnAppendGrownWrongFormAsk : Prop := fnAppendGrownRow.holds Tryf.pinned (OpenSpec.ofChange fnAppendGrownWrong)

/-- 'laws.FnAppendNoRoot': WHATEVER THE INPUT: true; the input reads as it did. -/
def fnAppendNoRootSpec : ChangeSpec := { name := "fnAppendNoRoot", fn := fun _ => fun
  | [d1, d2, d3] => { results := [.lit (.bool true)], args := [d1, d2, d3] }
  | _ => none }
def fnAppendNoRootRow : OpenClaim := { program := "ytpdmmmcelkinjaafmt", sum := "5ef39bcfe5fc6476a158d732e2c457e47042d17491912a3d69ddfd2b1fe6de80", func := "loop.example/pub-logproofs/laws.FnAppendNoRoot", spec := "fnAppendNoRoot", stops := ["fmt.errorf"], inPlace := ["fmt.errorf"], unfollowed := true, recurses := true, named := ["math/bits.deBruijn64tab"], apart := false, laid := [("math/bits.deBruijn64tab", laid_math_bits_deBruijn64tab)] }
/-- NO THEOREM (fmt's text is open here; it may be false): for the released tool's asking of the row's closed facts alone. THE STATEMENT IS 'FnAppendNoRootToldSaid' (YtpdmmmcelkinjaaFmtCards.lean). -/
def FnAppendNoRootFormAsk : Prop := fnAppendNoRootRow.holds Tryf.pinned (OpenSpec.ofChange fnAppendNoRootSpec)

/-- ITS FALSE NEIGHBOUR: 'it returns false'. Refute it at one input. -/
def fnAppendNoRootWrong : ChangeSpec := { name := "fnAppendNoRoot", fn := fun _ => fun
  | [d1, d2, d3] => { results := [.lit (.bool false)], args := [d1, d2, d3] }
  | _ => none }
def FnAppendNoRootWrongFormAsk : Prop := fnAppendNoRootRow.holds Tryf.pinned (OpenSpec.ofChange fnAppendNoRootWrong)

/-- 'laws.FnExactAppend': WHATEVER THE INPUT: true; the input reads as it did. -/
def fnExactAppendSpec : ChangeSpec := { name := "fnExactAppend", fn := fun _ => fun
  | [d1, d2, d3] => { results := [.lit (.bool true)], args := [d1, d2, d3] }
  | _ => none }
def fnExactAppendRow : OpenClaim := { program := "ytpdmmmcelkinjaafmt", sum := "5ef39bcfe5fc6476a158d732e2c457e47042d17491912a3d69ddfd2b1fe6de80", func := "loop.example/pub-logproofs/laws.FnExactAppend", spec := "fnExactAppend", stops := ["fmt.errorf"], inPlace := ["fmt.errorf"], unfollowed := true, recurses := true, named := ["math/bits.deBruijn64tab"], apart := false, laid := [("math/bits.deBruijn64tab", laid_math_bits_deBruijn64tab)] }
/-- NO THEOREM (fmt's text is open here; it may be false): for the released tool's asking of the row's closed facts alone. THE STATEMENT IS 'FnExactAppendToldSaid' (YtpdmmmcelkinjaaFmtCards.lean). -/
def FnExactAppendFormAsk : Prop := fnExactAppendRow.holds Tryf.pinned (OpenSpec.ofChange fnExactAppendSpec)

/-- ITS FALSE NEIGHBOUR: 'it returns false'. Refute it at one input. -/
def fnExactAppendWrong : ChangeSpec := { name := "fnExactAppend", fn := fun _ => fun
  | [d1, d2, d3] => { results := [.lit (.bool false)], args := [d1, d2, d3] }
  | _ => none }
def FnExactAppendWrongFormAsk : Prop := fnExactAppendRow.holds Tryf.pinned (OpenSpec.ofChange fnExactAppendWrong)

/-- 'laws.FnAppendEdge': WHATEVER THE INPUT: true; the input reads as it did. -/
def fnAppendEdgeSpec : ChangeSpec := { name := "fnAppendEdge", fn := fun _ => fun
  | [d1, d2] => { results := [.lit (.bool true)], args := [d1, d2] }
  | _ => none }
def fnAppendEdgeRow : OpenClaim := { program := "ytpdmmmcelkinjaafmt", sum := "5ef39bcfe5fc6476a158d732e2c457e47042d17491912a3d69ddfd2b1fe6de80", func := "loop.example/pub-logproofs/laws.FnAppendEdge", spec := "fnAppendEdge", stops := ["fmt.errorf"], inPlace := ["fmt.errorf"], unfollowed := true, recurses := true, named := ["math/bits.deBruijn64tab"], apart := false, laid := [("math/bits.deBruijn64tab", laid_math_bits_deBruijn64tab)] }
/-- NO THEOREM (fmt's text is open here; it may be false): for the released tool's asking of the row's closed facts alone. THE STATEMENT IS 'FnAppendEdgeToldSaid' (YtpdmmmcelkinjaaFmtCards.lean). -/
def FnAppendEdgeFormAsk : Prop := fnAppendEdgeRow.holds Tryf.pinned (OpenSpec.ofChange fnAppendEdgeSpec)

/-- ITS FALSE NEIGHBOUR: 'it returns false'. Refute it at one input. -/
def fnAppendEdgeWrong : ChangeSpec := { name := "fnAppendEdge", fn := fun _ => fun
  | [d1, d2] => { results := [.lit (.bool false)], args := [d1, d2] }
  | _ => none }
def FnAppendEdgeWrongFormAsk : Prop := fnAppendEdgeRow.holds Tryf.pinned (OpenSpec.ofChange fnAppendEdgeWrong)

/-- 'laws.FnAppendRangeGrown': WHATEVER THE INPUT: true; the input reads as it did. -/
def fnAppendRangeGrownSpec : ChangeSpec := { name := "fnAppendRangeGrown", fn := fun _ => fun
  | [d1, d2, d3, d4] => { results := [.lit (.bool true)], args := [d1, d2, d3, d4] }
  | _ => none }
def fnAppendRangeGrownRow : OpenClaim := { program := "ytpdmmmcelkinjaafmt", sum := "5ef39bcfe5fc6476a158d732e2c457e47042d17491912a3d69ddfd2b1fe6de80", func := "loop.example/pub-logproofs/laws.FnAppendRangeGrown", spec := "fnAppendRangeGrown", stops := ["fmt.errorf"], inPlace := ["fmt.errorf"], unfollowed := true, recurses := true, named := ["math/bits.deBruijn64tab"], apart := false, laid := [("math/bits.deBruijn64tab", laid_math_bits_deBruijn64tab)] }
/-- NO THEOREM (fmt's text is open here; it may be false): for the released tool's asking of the row's closed facts alone. THE STATEMENT IS 'FnAppendRangeGrownToldSaid' (YtpdmmmcelkinjaaFmtCards.lean). -/
def FnAppendRangeGrownFormAsk : Prop := fnAppendRangeGrownRow.holds Tryf.pinned (OpenSpec.ofChange fnAppendRangeGrownSpec)

/-- ITS FALSE NEIGHBOUR: 'it returns false'. Refute it at one input. -/
def fnAppendRangeGrownWrong : ChangeSpec := { name := "fnAppendRangeGrown", fn := fun _ => fun
  | [d1, d2, d3, d4] => { results := [.lit (.bool false)], args := [d1, d2, d3, d4] }
  | _ => none }
def FnAppendRangeGrownWrongFormAsk : Prop := fnAppendRangeGrownRow.holds Tryf.pinned (OpenSpec.ofChange fnAppendRangeGrownWrong)

/-- 'laws.FnExactAppendRange': WHATEVER THE INPUT: true; the input reads as it did. -/
def fnExactAppendRangeSpec : ChangeSpec := { name := "fnExactAppendRange", fn := fun _ => fun
  | [d1, d2, d3, d4, d5] => { results := [.lit (.bool true)], args := [d1, d2, d3, d4, d5] }
  | _ => none }
def fnExactAppendRangeRow : OpenClaim := { program := "ytpdmmmcelkinjaafmt", sum := "5ef39bcfe5fc6476a158d732e2c457e47042d17491912a3d69ddfd2b1fe6de80", func := "loop.example/pub-logproofs/laws.FnExactAppendRange", spec := "fnExactAppendRange", stops := ["fmt.errorf"], inPlace := ["fmt.errorf"], unfollowed := true, recurses := true, named := ["math/bits.deBruijn64tab"], apart := false, laid := [("math/bits.deBruijn64tab", laid_math_bits_deBruijn64tab)] }
/-- NO THEOREM (fmt's text is open here; it may be false): for the released tool's asking of the row's closed facts alone. THE STATEMENT IS 'FnExactAppendRangeToldSaid' (YtpdmmmcelkinjaaFmtCards.lean). -/
def FnExactAppendRangeFormAsk : Prop := fnExactAppendRangeRow.holds Tryf.pinned (OpenSpec.ofChange fnExactAppendRangeSpec)

/-- ITS FALSE NEIGHBOUR: 'it returns false'. Refute it at one input. -/
def fnExactAppendRangeWrong : ChangeSpec := { name := "fnExactAppendRange", fn := fun _ => fun
  | [d1, d2, d3, d4, d5] => { results := [.lit (.bool false)], args := [d1, d2, d3, d4, d5] }
  | _ => none }
def FnExactAppendRangeWrongFormAsk : Prop := fnExactAppendRangeRow.holds Tryf.pinned (OpenSpec.ofChange fnExactAppendRangeWrong)

/-- 'laws.FnAppendMaker': WHATEVER THE INPUT: true; the input reads as it did. -/
def fnAppendMakerSpec : ChangeSpec := { name := "fnAppendMaker", fn := fun _ => fun
  | [d1, d2, d3] => { results := [.lit (.bool true)], args := [d1, d2, d3] }
  | _ => none }
def fnAppendMakerRow : OpenClaim := { program := "ytpdmmmcelkinjaafmt", sum := "5ef39bcfe5fc6476a158d732e2c457e47042d17491912a3d69ddfd2b1fe6de80", func := "loop.example/pub-logproofs/laws.FnAppendMaker", spec := "fnAppendMaker", stops := ["fmt.errorf"], inPlace := ["fmt.errorf"], unfollowed := true, recurses := true, named := ["math/bits.deBruijn64tab"], apart := false, laid := [("math/bits.deBruijn64tab", laid_math_bits_deBruijn64tab)] }
/-- NO THEOREM (fmt's text is open here; it may be false): for the released tool's asking of the row's closed facts alone. THE STATEMENT IS 'FnAppendMakerToldSaid' (YtpdmmmcelkinjaaFmtCards.lean). -/
def FnAppendMakerFormAsk : Prop := fnAppendMakerRow.holds Tryf.pinned (OpenSpec.ofChange fnAppendMakerSpec)

/-- ITS FALSE NEIGHBOUR: 'it returns false'. Refute it at one input. -/
def fnAppendMakerWrong : ChangeSpec := { name := "fnAppendMaker", fn := fun _ => fun
  | [d1, d2, d3] => { results := [.lit (.bool false)], args := [d1, d2, d3] }
  | _ => none }
def FnAppendMakerWrongFormAsk : Prop := fnAppendMakerRow.holds Tryf.pinned (OpenSpec.ofChange fnAppendMakerWrong)

end Rows
end Go.Proofs.YtpdmmmcelkinjaaFmt
