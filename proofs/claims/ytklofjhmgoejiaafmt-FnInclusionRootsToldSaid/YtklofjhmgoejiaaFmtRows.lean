/-
  NARROWER THAN 'FOR EVERY INPUT', by the rows' own cells (each row's printed sentence says how): FnExactVerifyInclusion: laid · FnInclusionComplete: laid · FnInclusionSound: laid · FnVerifyInclusionLength: laid · FnVerifyInclusionMismatch: laid · FnExactRootFromInclusionProof: laid · FnInclusionLeaf: laid · FnInclusionOne: laid · FnInclusionRoots: laid.
  DERIVED. THE GIVEN ROWS OF THIS SEAT. 9 by the template 'for every input the law returns true; each argument reads behind the call as it read before'; 0 by the template 'total and deterministic' (their statements: YtklofjhmgoejiaaFmtTotals.lean).
  GIVEN WITH THE SEED: the statements are not yours to turn. If you find one false, say at which input.
  Laid BY PROGRAM, IN A SANDBOX (cutbox-rows.mjs): the forced cells as the released guide's own fill.sh prints them over the translation 1792319c8835eb63… (all of the seat's roots in one cut). By AI agents, Wed Nov 11 2026. No macro, syntax, notation, axiom, sorry.
-/
import Derived.Test.YtklofjhmgoejiaaFmtChecked
import GoSem.Claim
import GoSem.ClaimJoined
import GoSem.ClaimMapViews
import Derived.JoinedTies
import Derived.KernelRfl
namespace Go.Proofs.YtklofjhmgoejiaaFmt
/- THE CELL 'sum', in the pinned program and in every row, IS THE sha256 OF THE DUMP (.gsa) THAT YtklofjhmgoejiaaFmtProg.lean LOADS. Nothing in Lean hashes anything: it is a label: what it is worth is what the hold of that sum in a sandbox is worth. -/
noncomputable def Tryf.pinned : Pinned := { name := "ytklofjhmgoejiaafmt", sum := "1792319c8835eb63517bf1c20be6446132015602e1b6baccfea7502515ee8dd3", checked := Tryf.checked }
namespace Rows
def none {H : Type} : Left H := { results := [], args := [] }

/- WHAT THE LISTED PACKAGE-LEVEL VARIABLES READ AS WHEN THE CALL BEGINS. Each datum BY PROGRAM (the guide's laid-datum.mjs) off the statement by which the dump's own 'gosem.cut.vars' lays the variable. In a bare row this is a premise. The card (YtklofjhmgoejiaaFmtCards.lean) ties it to the program's text. -/
def laid_errors_errorType {H : Type} : DataW H := .iface "internal/reflectlite.rtype" (.agg [.ptr (.lit (.string [101, 114, 114, 111, 114]))])

/-- 'laws.FnExactVerifyInclusion': WHATEVER THE INPUT: true; the input reads as it did. -/
def fnExactVerifyInclusionSpec : ChangeSpec := { name := "fnExactVerifyInclusion", fn := fun _ => fun
  | [d1, d2, d3, d4, d5, d6] => { results := [.lit (.bool true)], args := [d1, d2, d3, d4, d5, d6] }
  | _ => none }
def fnExactVerifyInclusionRow : OpenClaim := { program := "ytklofjhmgoejiaafmt", sum := "1792319c8835eb63517bf1c20be6446132015602e1b6baccfea7502515ee8dd3", func := "loop.example/pub-logproofs/laws.FnExactVerifyInclusion", spec := "fnExactVerifyInclusion", stops := ["fmt.errorf"], inPlace := ["fmt.errorf", "internal/reflectlite.ValueOf", "(internal/reflectlite.Value).Type", "(internal/reflectlite.Value).IsNil", "internal/reflectlite.TypeOf", "(internal/reflectlite.Value).Elem", "(internal/reflectlite.Value).Set"], unfollowed := true, recurses := true, named := ["errors.errorType"], apart := false, laid := [("errors.errorType", laid_errors_errorType)] }
/-- NO THEOREM (fmt's text is open here; it may be false): for the released tool's asking of the row's closed facts alone. THE STATEMENT IS 'FnExactVerifyInclusionToldSaid' (YtklofjhmgoejiaaFmtCards.lean). -/
def FnExactVerifyInclusionFormAsk : Prop := fnExactVerifyInclusionRow.holds Tryf.pinned (OpenSpec.ofChange fnExactVerifyInclusionSpec)

/-- ITS FALSE NEIGHBOUR: 'it returns false'. Refute it at one input. -/
def fnExactVerifyInclusionWrong : ChangeSpec := { name := "fnExactVerifyInclusion", fn := fun _ => fun
  | [d1, d2, d3, d4, d5, d6] => { results := [.lit (.bool false)], args := [d1, d2, d3, d4, d5, d6] }
  | _ => none }
def FnExactVerifyInclusionWrongFormAsk : Prop := fnExactVerifyInclusionRow.holds Tryf.pinned (OpenSpec.ofChange fnExactVerifyInclusionWrong)

/-- 'laws.FnInclusionComplete': WHATEVER THE INPUT: true; the input reads as it did. -/
def fnInclusionCompleteSpec : ChangeSpec := { name := "fnInclusionComplete", fn := fun _ => fun
  | [d1, d2, d3] => { results := [.lit (.bool true)], args := [d1, d2, d3] }
  | _ => none }
def fnInclusionCompleteRow : OpenClaim := { program := "ytklofjhmgoejiaafmt", sum := "1792319c8835eb63517bf1c20be6446132015602e1b6baccfea7502515ee8dd3", func := "loop.example/pub-logproofs/laws.FnInclusionComplete", spec := "fnInclusionComplete", stops := ["fmt.errorf"], inPlace := ["fmt.errorf", "internal/reflectlite.ValueOf", "(internal/reflectlite.Value).Type", "(internal/reflectlite.Value).IsNil", "internal/reflectlite.TypeOf", "(internal/reflectlite.Value).Elem", "(internal/reflectlite.Value).Set"], unfollowed := true, recurses := true, named := ["errors.errorType"], apart := false, laid := [("errors.errorType", laid_errors_errorType)] }
/-- NO THEOREM (fmt's text is open here; it may be false): for the released tool's asking of the row's closed facts alone. THE STATEMENT IS 'FnInclusionCompleteToldSaid' (YtklofjhmgoejiaaFmtCards.lean). -/
def FnInclusionCompleteFormAsk : Prop := fnInclusionCompleteRow.holds Tryf.pinned (OpenSpec.ofChange fnInclusionCompleteSpec)

/-- ITS FALSE NEIGHBOUR: 'it returns false'. Refute it at one input. -/
def fnInclusionCompleteWrong : ChangeSpec := { name := "fnInclusionComplete", fn := fun _ => fun
  | [d1, d2, d3] => { results := [.lit (.bool false)], args := [d1, d2, d3] }
  | _ => none }
def FnInclusionCompleteWrongFormAsk : Prop := fnInclusionCompleteRow.holds Tryf.pinned (OpenSpec.ofChange fnInclusionCompleteWrong)

/-- 'laws.FnInclusionSound': WHATEVER THE INPUT: true; the input reads as it did. -/
def fnInclusionSoundSpec : ChangeSpec := { name := "fnInclusionSound", fn := fun _ => fun
  | [d1, d2, d3, d4, d5, d6, d7, d8] => { results := [.lit (.bool true)], args := [d1, d2, d3, d4, d5, d6, d7, d8] }
  | _ => none }
def fnInclusionSoundRow : OpenClaim := { program := "ytklofjhmgoejiaafmt", sum := "1792319c8835eb63517bf1c20be6446132015602e1b6baccfea7502515ee8dd3", func := "loop.example/pub-logproofs/laws.FnInclusionSound", spec := "fnInclusionSound", stops := ["fmt.errorf"], inPlace := ["fmt.errorf", "internal/reflectlite.ValueOf", "(internal/reflectlite.Value).Type", "(internal/reflectlite.Value).IsNil", "internal/reflectlite.TypeOf", "(internal/reflectlite.Value).Elem", "(internal/reflectlite.Value).Set"], unfollowed := true, recurses := true, named := ["errors.errorType"], apart := false, laid := [("errors.errorType", laid_errors_errorType)] }
/-- NO THEOREM (fmt's text is open here; it may be false): for the released tool's asking of the row's closed facts alone. THE STATEMENT IS 'FnInclusionSoundToldSaid' (YtklofjhmgoejiaaFmtCards.lean). -/
def FnInclusionSoundFormAsk : Prop := fnInclusionSoundRow.holds Tryf.pinned (OpenSpec.ofChange fnInclusionSoundSpec)

/-- ITS FALSE NEIGHBOUR: 'it returns false'. Refute it at one input. -/
def fnInclusionSoundWrong : ChangeSpec := { name := "fnInclusionSound", fn := fun _ => fun
  | [d1, d2, d3, d4, d5, d6, d7, d8] => { results := [.lit (.bool false)], args := [d1, d2, d3, d4, d5, d6, d7, d8] }
  | _ => none }
def FnInclusionSoundWrongFormAsk : Prop := fnInclusionSoundRow.holds Tryf.pinned (OpenSpec.ofChange fnInclusionSoundWrong)

/-- 'laws.FnVerifyInclusionLength': WHATEVER THE INPUT: true; the input reads as it did. -/
def fnVerifyInclusionLengthSpec : ChangeSpec := { name := "fnVerifyInclusionLength", fn := fun _ => fun
  | [d1, d2, d3, d4, d5, d6] => { results := [.lit (.bool true)], args := [d1, d2, d3, d4, d5, d6] }
  | _ => none }
def fnVerifyInclusionLengthRow : OpenClaim := { program := "ytklofjhmgoejiaafmt", sum := "1792319c8835eb63517bf1c20be6446132015602e1b6baccfea7502515ee8dd3", func := "loop.example/pub-logproofs/laws.FnVerifyInclusionLength", spec := "fnVerifyInclusionLength", stops := ["fmt.errorf"], inPlace := ["fmt.errorf", "internal/reflectlite.ValueOf", "(internal/reflectlite.Value).Type", "(internal/reflectlite.Value).IsNil", "internal/reflectlite.TypeOf", "(internal/reflectlite.Value).Elem", "(internal/reflectlite.Value).Set"], unfollowed := true, recurses := true, named := ["errors.errorType"], apart := false, laid := [("errors.errorType", laid_errors_errorType)] }
/-- NO THEOREM (fmt's text is open here; it may be false): for the released tool's asking of the row's closed facts alone. THE STATEMENT IS 'FnVerifyInclusionLengthToldSaid' (YtklofjhmgoejiaaFmtCards.lean). -/
def FnVerifyInclusionLengthFormAsk : Prop := fnVerifyInclusionLengthRow.holds Tryf.pinned (OpenSpec.ofChange fnVerifyInclusionLengthSpec)

/-- ITS FALSE NEIGHBOUR: 'it returns false'. Refute it at one input. -/
def fnVerifyInclusionLengthWrong : ChangeSpec := { name := "fnVerifyInclusionLength", fn := fun _ => fun
  | [d1, d2, d3, d4, d5, d6] => { results := [.lit (.bool false)], args := [d1, d2, d3, d4, d5, d6] }
  | _ => none }
def FnVerifyInclusionLengthWrongFormAsk : Prop := fnVerifyInclusionLengthRow.holds Tryf.pinned (OpenSpec.ofChange fnVerifyInclusionLengthWrong)

/-- 'laws.FnVerifyInclusionMismatch': WHATEVER THE INPUT: true; the input reads as it did. -/
def fnVerifyInclusionMismatchSpec : ChangeSpec := { name := "fnVerifyInclusionMismatch", fn := fun _ => fun
  | [d1, d2, d3, d4, d5, d6] => { results := [.lit (.bool true)], args := [d1, d2, d3, d4, d5, d6] }
  | _ => none }
def fnVerifyInclusionMismatchRow : OpenClaim := { program := "ytklofjhmgoejiaafmt", sum := "1792319c8835eb63517bf1c20be6446132015602e1b6baccfea7502515ee8dd3", func := "loop.example/pub-logproofs/laws.FnVerifyInclusionMismatch", spec := "fnVerifyInclusionMismatch", stops := ["fmt.errorf"], inPlace := ["fmt.errorf", "internal/reflectlite.ValueOf", "(internal/reflectlite.Value).Type", "(internal/reflectlite.Value).IsNil", "internal/reflectlite.TypeOf", "(internal/reflectlite.Value).Elem", "(internal/reflectlite.Value).Set"], unfollowed := true, recurses := true, named := ["errors.errorType"], apart := false, laid := [("errors.errorType", laid_errors_errorType)] }
/-- NO THEOREM (fmt's text is open here; it may be false): for the released tool's asking of the row's closed facts alone. THE STATEMENT IS 'FnVerifyInclusionMismatchToldSaid' (YtklofjhmgoejiaaFmtCards.lean). -/
def FnVerifyInclusionMismatchFormAsk : Prop := fnVerifyInclusionMismatchRow.holds Tryf.pinned (OpenSpec.ofChange fnVerifyInclusionMismatchSpec)

/-- ITS FALSE NEIGHBOUR: 'it returns false'. Refute it at one input. -/
def fnVerifyInclusionMismatchWrong : ChangeSpec := { name := "fnVerifyInclusionMismatch", fn := fun _ => fun
  | [d1, d2, d3, d4, d5, d6] => { results := [.lit (.bool false)], args := [d1, d2, d3, d4, d5, d6] }
  | _ => none }
def FnVerifyInclusionMismatchWrongFormAsk : Prop := fnVerifyInclusionMismatchRow.holds Tryf.pinned (OpenSpec.ofChange fnVerifyInclusionMismatchWrong)

/-- 'laws.FnExactRootFromInclusionProof': WHATEVER THE INPUT: true; the input reads as it did. -/
def fnExactRootFromInclusionProofSpec : ChangeSpec := { name := "fnExactRootFromInclusionProof", fn := fun _ => fun
  | [d1, d2, d3, d4, d5] => { results := [.lit (.bool true)], args := [d1, d2, d3, d4, d5] }
  | _ => none }
def fnExactRootFromInclusionProofRow : OpenClaim := { program := "ytklofjhmgoejiaafmt", sum := "1792319c8835eb63517bf1c20be6446132015602e1b6baccfea7502515ee8dd3", func := "loop.example/pub-logproofs/laws.FnExactRootFromInclusionProof", spec := "fnExactRootFromInclusionProof", stops := ["fmt.errorf"], inPlace := ["fmt.errorf", "internal/reflectlite.ValueOf", "(internal/reflectlite.Value).Type", "(internal/reflectlite.Value).IsNil", "internal/reflectlite.TypeOf", "(internal/reflectlite.Value).Elem", "(internal/reflectlite.Value).Set"], unfollowed := true, recurses := true, named := ["errors.errorType"], apart := false, laid := [("errors.errorType", laid_errors_errorType)] }
/-- NO THEOREM (fmt's text is open here; it may be false): for the released tool's asking of the row's closed facts alone. THE STATEMENT IS 'FnExactRootFromInclusionProofToldSaid' (YtklofjhmgoejiaaFmtCards.lean). -/
def FnExactRootFromInclusionProofFormAsk : Prop := fnExactRootFromInclusionProofRow.holds Tryf.pinned (OpenSpec.ofChange fnExactRootFromInclusionProofSpec)

/-- ITS FALSE NEIGHBOUR: 'it returns false'. Refute it at one input. -/
def fnExactRootFromInclusionProofWrong : ChangeSpec := { name := "fnExactRootFromInclusionProof", fn := fun _ => fun
  | [d1, d2, d3, d4, d5] => { results := [.lit (.bool false)], args := [d1, d2, d3, d4, d5] }
  | _ => none }
def FnExactRootFromInclusionProofWrongFormAsk : Prop := fnExactRootFromInclusionProofRow.holds Tryf.pinned (OpenSpec.ofChange fnExactRootFromInclusionProofWrong)

/-- 'laws.FnInclusionLeaf': WHATEVER THE INPUT: true; the input reads as it did. -/
def fnInclusionLeafSpec : ChangeSpec := { name := "fnInclusionLeaf", fn := fun _ => fun
  | [d1, d2, d3, d4, d5] => { results := [.lit (.bool true)], args := [d1, d2, d3, d4, d5] }
  | _ => none }
def fnInclusionLeafRow : OpenClaim := { program := "ytklofjhmgoejiaafmt", sum := "1792319c8835eb63517bf1c20be6446132015602e1b6baccfea7502515ee8dd3", func := "loop.example/pub-logproofs/laws.FnInclusionLeaf", spec := "fnInclusionLeaf", stops := ["fmt.errorf"], inPlace := ["fmt.errorf", "internal/reflectlite.ValueOf", "(internal/reflectlite.Value).Type", "(internal/reflectlite.Value).IsNil", "internal/reflectlite.TypeOf", "(internal/reflectlite.Value).Elem", "(internal/reflectlite.Value).Set"], unfollowed := true, recurses := true, named := ["errors.errorType"], apart := false, laid := [("errors.errorType", laid_errors_errorType)] }
/-- NO THEOREM (fmt's text is open here; it may be false): for the released tool's asking of the row's closed facts alone. THE STATEMENT IS 'FnInclusionLeafToldSaid' (YtklofjhmgoejiaaFmtCards.lean). -/
def FnInclusionLeafFormAsk : Prop := fnInclusionLeafRow.holds Tryf.pinned (OpenSpec.ofChange fnInclusionLeafSpec)

/-- ITS FALSE NEIGHBOUR: 'it returns false'. Refute it at one input. -/
def fnInclusionLeafWrong : ChangeSpec := { name := "fnInclusionLeaf", fn := fun _ => fun
  | [d1, d2, d3, d4, d5] => { results := [.lit (.bool false)], args := [d1, d2, d3, d4, d5] }
  | _ => none }
def FnInclusionLeafWrongFormAsk : Prop := fnInclusionLeafRow.holds Tryf.pinned (OpenSpec.ofChange fnInclusionLeafWrong)

/-- 'laws.FnInclusionOne': WHATEVER THE INPUT: true; the input reads as it did. -/
def fnInclusionOneSpec : ChangeSpec := { name := "fnInclusionOne", fn := fun _ => fun
  | [d1, d2, d3] => { results := [.lit (.bool true)], args := [d1, d2, d3] }
  | _ => none }
def fnInclusionOneRow : OpenClaim := { program := "ytklofjhmgoejiaafmt", sum := "1792319c8835eb63517bf1c20be6446132015602e1b6baccfea7502515ee8dd3", func := "loop.example/pub-logproofs/laws.FnInclusionOne", spec := "fnInclusionOne", stops := ["fmt.errorf"], inPlace := ["fmt.errorf", "internal/reflectlite.ValueOf", "(internal/reflectlite.Value).Type", "(internal/reflectlite.Value).IsNil", "internal/reflectlite.TypeOf", "(internal/reflectlite.Value).Elem", "(internal/reflectlite.Value).Set"], unfollowed := true, recurses := true, named := ["errors.errorType"], apart := false, laid := [("errors.errorType", laid_errors_errorType)] }
/-- NO THEOREM (fmt's text is open here; it may be false): for the released tool's asking of the row's closed facts alone. THE STATEMENT IS 'FnInclusionOneToldSaid' (YtklofjhmgoejiaaFmtCards.lean). -/
def FnInclusionOneFormAsk : Prop := fnInclusionOneRow.holds Tryf.pinned (OpenSpec.ofChange fnInclusionOneSpec)

/-- ITS FALSE NEIGHBOUR: 'it returns false'. Refute it at one input. -/
def fnInclusionOneWrong : ChangeSpec := { name := "fnInclusionOne", fn := fun _ => fun
  | [d1, d2, d3] => { results := [.lit (.bool false)], args := [d1, d2, d3] }
  | _ => none }
def FnInclusionOneWrongFormAsk : Prop := fnInclusionOneRow.holds Tryf.pinned (OpenSpec.ofChange fnInclusionOneWrong)

/-- 'laws.FnInclusionRoots': WHATEVER THE INPUT: true; the input reads as it did. -/
def fnInclusionRootsSpec : ChangeSpec := { name := "fnInclusionRoots", fn := fun _ => fun
  | [d1, d2, d3, d4, d5, d6] => { results := [.lit (.bool true)], args := [d1, d2, d3, d4, d5, d6] }
  | _ => none }
def fnInclusionRootsRow : OpenClaim := { program := "ytklofjhmgoejiaafmt", sum := "1792319c8835eb63517bf1c20be6446132015602e1b6baccfea7502515ee8dd3", func := "loop.example/pub-logproofs/laws.FnInclusionRoots", spec := "fnInclusionRoots", stops := ["fmt.errorf"], inPlace := ["fmt.errorf", "internal/reflectlite.ValueOf", "(internal/reflectlite.Value).Type", "(internal/reflectlite.Value).IsNil", "internal/reflectlite.TypeOf", "(internal/reflectlite.Value).Elem", "(internal/reflectlite.Value).Set"], unfollowed := true, recurses := true, named := ["errors.errorType"], apart := false, laid := [("errors.errorType", laid_errors_errorType)] }
/-- NO THEOREM (fmt's text is open here; it may be false): for the released tool's asking of the row's closed facts alone. THE STATEMENT IS 'FnInclusionRootsToldSaid' (YtklofjhmgoejiaaFmtCards.lean). -/
def FnInclusionRootsFormAsk : Prop := fnInclusionRootsRow.holds Tryf.pinned (OpenSpec.ofChange fnInclusionRootsSpec)

/-- ITS FALSE NEIGHBOUR: 'it returns false'. Refute it at one input. -/
def fnInclusionRootsWrong : ChangeSpec := { name := "fnInclusionRoots", fn := fun _ => fun
  | [d1, d2, d3, d4, d5, d6] => { results := [.lit (.bool false)], args := [d1, d2, d3, d4, d5, d6] }
  | _ => none }
def FnInclusionRootsWrongFormAsk : Prop := fnInclusionRootsRow.holds Tryf.pinned (OpenSpec.ofChange fnInclusionRootsWrong)

end Rows
end Go.Proofs.YtklofjhmgoejiaaFmt
