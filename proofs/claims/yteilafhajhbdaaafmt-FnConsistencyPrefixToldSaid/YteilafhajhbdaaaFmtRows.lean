/-
  NARROWER THAN 'FOR EVERY INPUT', by the rows' own cells (each row's printed sentence says how): FnConsistencyComplete: laid · FnConsistencyPrefix: laid · FnConsistencySame: laid · FnExactVerifyConsistency: laid · FnConsistencyOrder: laid.
  DERIVED. THE GIVEN ROWS OF THIS SEAT. 5 by the template 'for every input the law returns true; each argument reads behind the call as it read before'; 0 by the template 'total and deterministic' (their statements: YteilafhajhbdaaaFmtTotals.lean).
  GIVEN WITH THE SEED: the statements are not yours to turn. If you find one false, say at which input.
  Laid BY PROGRAM, IN A SANDBOX (cutbox-rows.mjs): the forced cells as the released guide's own fill.sh prints them over the translation da392a6f799e64e7… (all of the seat's roots in one cut). By AI agents, Wed Nov 11 2026. No macro, syntax, notation, axiom, sorry.
-/
import Derived.Test.YteilafhajhbdaaaFmtChecked
import GoSem.Claim
import GoSem.ClaimJoined
import GoSem.ClaimMapViews
import Derived.JoinedTies
import Derived.KernelRfl
namespace Go.Proofs.YteilafhajhbdaaaFmt
/- THE CELL 'sum', in the pinned program and in every row, IS THE sha256 OF THE DUMP (.gsa) THAT YteilafhajhbdaaaFmtProg.lean LOADS. Nothing in Lean hashes anything: it is a label: what it is worth is what the hold of that sum in a sandbox is worth. -/
noncomputable def Tryf.pinned : Pinned := { name := "yteilafhajhbdaaafmt", sum := "da392a6f799e64e776023dabff61ce7cfab7632145ffbffbf3b073794e07a9a0", checked := Tryf.checked }
namespace Rows
def none {H : Type} : Left H := { results := [], args := [] }

/- WHAT THE LISTED PACKAGE-LEVEL VARIABLES READ AS WHEN THE CALL BEGINS. Each datum BY PROGRAM (the guide's laid-datum.mjs) off the statement by which the dump's own 'gosem.cut.vars' lays the variable. In a bare row this is a premise. The card (YteilafhajhbdaaaFmtCards.lean) ties it to the program's text. -/
def laid_math_bits_deBruijn64tab {H : Type} : DataW H := .agg [.lit (.int .u8 0), .lit (.int .u8 1), .lit (.int .u8 56), .lit (.int .u8 2), .lit (.int .u8 57), .lit (.int .u8 49), .lit (.int .u8 28), .lit (.int .u8 3), .lit (.int .u8 61), .lit (.int .u8 58), .lit (.int .u8 42), .lit (.int .u8 50), .lit (.int .u8 38), .lit (.int .u8 29), .lit (.int .u8 17), .lit (.int .u8 4), .lit (.int .u8 62), .lit (.int .u8 47), .lit (.int .u8 59), .lit (.int .u8 36), .lit (.int .u8 45), .lit (.int .u8 43), .lit (.int .u8 51), .lit (.int .u8 22), .lit (.int .u8 53), .lit (.int .u8 39), .lit (.int .u8 33), .lit (.int .u8 30), .lit (.int .u8 24), .lit (.int .u8 18), .lit (.int .u8 12), .lit (.int .u8 5), .lit (.int .u8 63), .lit (.int .u8 55), .lit (.int .u8 48), .lit (.int .u8 27), .lit (.int .u8 60), .lit (.int .u8 41), .lit (.int .u8 37), .lit (.int .u8 16), .lit (.int .u8 46), .lit (.int .u8 35), .lit (.int .u8 44), .lit (.int .u8 21), .lit (.int .u8 52), .lit (.int .u8 32), .lit (.int .u8 23), .lit (.int .u8 11), .lit (.int .u8 54), .lit (.int .u8 26), .lit (.int .u8 40), .lit (.int .u8 15), .lit (.int .u8 34), .lit (.int .u8 20), .lit (.int .u8 31), .lit (.int .u8 10), .lit (.int .u8 25), .lit (.int .u8 14), .lit (.int .u8 19), .lit (.int .u8 9), .lit (.int .u8 13), .lit (.int .u8 8), .lit (.int .u8 7), .lit (.int .u8 6)]
def laid_errors_errorType {H : Type} : DataW H := .iface "internal/reflectlite.rtype" (.agg [.ptr (.lit (.string [101, 114, 114, 111, 114]))])

/-- 'laws.FnConsistencyComplete': WHATEVER THE INPUT: true; the input reads as it did. -/
def fnConsistencyCompleteSpec : ChangeSpec := { name := "fnConsistencyComplete", fn := fun _ => fun
  | [d1, d2, d3] => { results := [.lit (.bool true)], args := [d1, d2, d3] }
  | _ => none }
def fnConsistencyCompleteRow : OpenClaim := { program := "yteilafhajhbdaaafmt", sum := "da392a6f799e64e776023dabff61ce7cfab7632145ffbffbf3b073794e07a9a0", func := "loop.example/pub-logproofs/laws.FnConsistencyComplete", spec := "fnConsistencyComplete", stops := ["fmt.errorf"], inPlace := ["fmt.errorf", "internal/reflectlite.ValueOf", "(internal/reflectlite.Value).Type", "(internal/reflectlite.Value).IsNil", "internal/reflectlite.TypeOf", "(internal/reflectlite.Value).Elem", "(internal/reflectlite.Value).Set"], unfollowed := true, recurses := true, named := ["math/bits.deBruijn64tab", "errors.errorType"], apart := false, laid := [("math/bits.deBruijn64tab", laid_math_bits_deBruijn64tab), ("errors.errorType", laid_errors_errorType)] }
/-- NO THEOREM (fmt's text is open here; it may be false): for the released tool's asking of the row's closed facts alone. THE STATEMENT IS 'FnConsistencyCompleteToldSaid' (YteilafhajhbdaaaFmtCards.lean). -/
def FnConsistencyCompleteFormAsk : Prop := fnConsistencyCompleteRow.holds Tryf.pinned (OpenSpec.ofChange fnConsistencyCompleteSpec)

/-- ITS FALSE NEIGHBOUR: 'it returns false'. Refute it at one input. -/
def fnConsistencyCompleteWrong : ChangeSpec := { name := "fnConsistencyComplete", fn := fun _ => fun
  | [d1, d2, d3] => { results := [.lit (.bool false)], args := [d1, d2, d3] }
  | _ => none }
def FnConsistencyCompleteWrongFormAsk : Prop := fnConsistencyCompleteRow.holds Tryf.pinned (OpenSpec.ofChange fnConsistencyCompleteWrong)

/-- 'laws.FnConsistencyPrefix': WHATEVER THE INPUT: true; the input reads as it did. -/
def fnConsistencyPrefixSpec : ChangeSpec := { name := "fnConsistencyPrefix", fn := fun _ => fun
  | [d1, d2, d3, d4] => { results := [.lit (.bool true)], args := [d1, d2, d3, d4] }
  | _ => none }
def fnConsistencyPrefixRow : OpenClaim := { program := "yteilafhajhbdaaafmt", sum := "da392a6f799e64e776023dabff61ce7cfab7632145ffbffbf3b073794e07a9a0", func := "loop.example/pub-logproofs/laws.FnConsistencyPrefix", spec := "fnConsistencyPrefix", stops := ["fmt.errorf"], inPlace := ["fmt.errorf", "internal/reflectlite.ValueOf", "(internal/reflectlite.Value).Type", "(internal/reflectlite.Value).IsNil", "internal/reflectlite.TypeOf", "(internal/reflectlite.Value).Elem", "(internal/reflectlite.Value).Set"], unfollowed := true, recurses := true, named := ["math/bits.deBruijn64tab", "errors.errorType"], apart := false, laid := [("math/bits.deBruijn64tab", laid_math_bits_deBruijn64tab), ("errors.errorType", laid_errors_errorType)] }
/-- NO THEOREM (fmt's text is open here; it may be false): for the released tool's asking of the row's closed facts alone. THE STATEMENT IS 'FnConsistencyPrefixToldSaid' (YteilafhajhbdaaaFmtCards.lean). -/
def FnConsistencyPrefixFormAsk : Prop := fnConsistencyPrefixRow.holds Tryf.pinned (OpenSpec.ofChange fnConsistencyPrefixSpec)

/-- ITS FALSE NEIGHBOUR: 'it returns false'. Refute it at one input. -/
def fnConsistencyPrefixWrong : ChangeSpec := { name := "fnConsistencyPrefix", fn := fun _ => fun
  | [d1, d2, d3, d4] => { results := [.lit (.bool false)], args := [d1, d2, d3, d4] }
  | _ => none }
def FnConsistencyPrefixWrongFormAsk : Prop := fnConsistencyPrefixRow.holds Tryf.pinned (OpenSpec.ofChange fnConsistencyPrefixWrong)

/-- 'laws.FnConsistencySame': WHATEVER THE INPUT: true; the input reads as it did. -/
def fnConsistencySameSpec : ChangeSpec := { name := "fnConsistencySame", fn := fun _ => fun
  | [d1, d2, d3, d4, d5] => { results := [.lit (.bool true)], args := [d1, d2, d3, d4, d5] }
  | _ => none }
def fnConsistencySameRow : OpenClaim := { program := "yteilafhajhbdaaafmt", sum := "da392a6f799e64e776023dabff61ce7cfab7632145ffbffbf3b073794e07a9a0", func := "loop.example/pub-logproofs/laws.FnConsistencySame", spec := "fnConsistencySame", stops := ["fmt.errorf"], inPlace := ["fmt.errorf", "internal/reflectlite.ValueOf", "(internal/reflectlite.Value).Type", "(internal/reflectlite.Value).IsNil", "internal/reflectlite.TypeOf", "(internal/reflectlite.Value).Elem", "(internal/reflectlite.Value).Set"], unfollowed := true, recurses := true, named := ["math/bits.deBruijn64tab", "errors.errorType"], apart := false, laid := [("math/bits.deBruijn64tab", laid_math_bits_deBruijn64tab), ("errors.errorType", laid_errors_errorType)] }
/-- NO THEOREM (fmt's text is open here; it may be false): for the released tool's asking of the row's closed facts alone. THE STATEMENT IS 'FnConsistencySameToldSaid' (YteilafhajhbdaaaFmtCards.lean). -/
def FnConsistencySameFormAsk : Prop := fnConsistencySameRow.holds Tryf.pinned (OpenSpec.ofChange fnConsistencySameSpec)

/-- ITS FALSE NEIGHBOUR: 'it returns false'. Refute it at one input. -/
def fnConsistencySameWrong : ChangeSpec := { name := "fnConsistencySame", fn := fun _ => fun
  | [d1, d2, d3, d4, d5] => { results := [.lit (.bool false)], args := [d1, d2, d3, d4, d5] }
  | _ => none }
def FnConsistencySameWrongFormAsk : Prop := fnConsistencySameRow.holds Tryf.pinned (OpenSpec.ofChange fnConsistencySameWrong)

/-- 'laws.FnExactVerifyConsistency': WHATEVER THE INPUT: true; the input reads as it did. -/
def fnExactVerifyConsistencySpec : ChangeSpec := { name := "fnExactVerifyConsistency", fn := fun _ => fun
  | [d1, d2, d3, d4, d5, d6] => { results := [.lit (.bool true)], args := [d1, d2, d3, d4, d5, d6] }
  | _ => none }
def fnExactVerifyConsistencyRow : OpenClaim := { program := "yteilafhajhbdaaafmt", sum := "da392a6f799e64e776023dabff61ce7cfab7632145ffbffbf3b073794e07a9a0", func := "loop.example/pub-logproofs/laws.FnExactVerifyConsistency", spec := "fnExactVerifyConsistency", stops := ["fmt.errorf"], inPlace := ["fmt.errorf", "internal/reflectlite.ValueOf", "(internal/reflectlite.Value).Type", "(internal/reflectlite.Value).IsNil", "internal/reflectlite.TypeOf", "(internal/reflectlite.Value).Elem", "(internal/reflectlite.Value).Set"], unfollowed := true, recurses := true, named := ["math/bits.deBruijn64tab", "errors.errorType"], apart := false, laid := [("math/bits.deBruijn64tab", laid_math_bits_deBruijn64tab), ("errors.errorType", laid_errors_errorType)] }
/-- NO THEOREM (fmt's text is open here; it may be false): for the released tool's asking of the row's closed facts alone. THE STATEMENT IS 'FnExactVerifyConsistencyToldSaid' (YteilafhajhbdaaaFmtCards.lean). -/
def FnExactVerifyConsistencyFormAsk : Prop := fnExactVerifyConsistencyRow.holds Tryf.pinned (OpenSpec.ofChange fnExactVerifyConsistencySpec)

/-- ITS FALSE NEIGHBOUR: 'it returns false'. Refute it at one input. -/
def fnExactVerifyConsistencyWrong : ChangeSpec := { name := "fnExactVerifyConsistency", fn := fun _ => fun
  | [d1, d2, d3, d4, d5, d6] => { results := [.lit (.bool false)], args := [d1, d2, d3, d4, d5, d6] }
  | _ => none }
def FnExactVerifyConsistencyWrongFormAsk : Prop := fnExactVerifyConsistencyRow.holds Tryf.pinned (OpenSpec.ofChange fnExactVerifyConsistencyWrong)

/-- 'laws.FnConsistencyOrder': WHATEVER THE INPUT: true; the input reads as it did. -/
def fnConsistencyOrderSpec : ChangeSpec := { name := "fnConsistencyOrder", fn := fun _ => fun
  | [d1, d2, d3, d4, d5, d6] => { results := [.lit (.bool true)], args := [d1, d2, d3, d4, d5, d6] }
  | _ => none }
def fnConsistencyOrderRow : OpenClaim := { program := "yteilafhajhbdaaafmt", sum := "da392a6f799e64e776023dabff61ce7cfab7632145ffbffbf3b073794e07a9a0", func := "loop.example/pub-logproofs/laws.FnConsistencyOrder", spec := "fnConsistencyOrder", stops := ["fmt.errorf"], inPlace := ["fmt.errorf", "internal/reflectlite.ValueOf", "(internal/reflectlite.Value).Type", "(internal/reflectlite.Value).IsNil", "internal/reflectlite.TypeOf", "(internal/reflectlite.Value).Elem", "(internal/reflectlite.Value).Set"], unfollowed := true, recurses := true, named := ["math/bits.deBruijn64tab", "errors.errorType"], apart := false, laid := [("math/bits.deBruijn64tab", laid_math_bits_deBruijn64tab), ("errors.errorType", laid_errors_errorType)] }
/-- NO THEOREM (fmt's text is open here; it may be false): for the released tool's asking of the row's closed facts alone. THE STATEMENT IS 'FnConsistencyOrderToldSaid' (YteilafhajhbdaaaFmtCards.lean). -/
def FnConsistencyOrderFormAsk : Prop := fnConsistencyOrderRow.holds Tryf.pinned (OpenSpec.ofChange fnConsistencyOrderSpec)

/-- ITS FALSE NEIGHBOUR: 'it returns false'. Refute it at one input. -/
def fnConsistencyOrderWrong : ChangeSpec := { name := "fnConsistencyOrder", fn := fun _ => fun
  | [d1, d2, d3, d4, d5, d6] => { results := [.lit (.bool false)], args := [d1, d2, d3, d4, d5, d6] }
  | _ => none }
def FnConsistencyOrderWrongFormAsk : Prop := fnConsistencyOrderRow.holds Tryf.pinned (OpenSpec.ofChange fnConsistencyOrderWrong)

end Rows
end Go.Proofs.YteilafhajhbdaaaFmt
