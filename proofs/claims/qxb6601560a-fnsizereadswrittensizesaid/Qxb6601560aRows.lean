/-
  No cell of these rows narrows 'for every input' (looked for: loops, veiled, ifaces, maps, wideKeys, modest, calm, conditions, laid).
  DERIVED. THE GIVEN ROWS OF THIS SEAT. 6 by the template 'for every input the law returns true; each argument reads behind the call as it read before'; 0 by the template 'total and deterministic' (their statements: Qxb6601560aTotals.lean).
  GIVEN WITH THE SEED: the statements are not yours to turn. If you find one false, say at which input.
  Laid BY PROGRAM, IN A SANDBOX (cutbox-rows.mjs): the forced cells as the released guide's own fill.sh prints them over the translation 543fdb4a8ad720ae… (all of the seat's roots in one cut). By AI agents, Wed Nov 11 2026. No macro, syntax, notation, axiom, sorry.
-/
import Derived.Test.Qxb6601560aChecked
import GoSem.Claim
import GoSem.ClaimJoined
import GoSem.ClaimMapViews
import Derived.JoinedTies
import Derived.KernelRfl
namespace Go.Proofs.Qxb6601560a
/- THE CELL 'sum', in the pinned program and in every row, IS THE sha256 OF THE DUMP (.gsa) THAT Qxb6601560aProg.lean LOADS. Nothing in Lean hashes anything: it is a label: what it is worth is what the hold of that sum in a sandbox is worth. -/
noncomputable def Try.pinned : Pinned := { name := "qxb6601560a", sum := "543fdb4a8ad720ae0334cb78ff00f0ca76cd5fea982835bd0fff48df11b31608", checked := Try.checked }
namespace Rows
def none {H : Type} : Left H := { results := [], args := [] }

/-- 'zzlaws_internal_accesslog_b1.FnTokenWholeAnswer': WHATEVER THE INPUT: true; the input reads as it did. -/
def fnTokenWholeAnswerSpec : ChangeSpec := { name := "fnTokenWholeAnswer", fn := fun _ => fun
  | [d1, d2] => { results := [.lit (.bool true)], args := [d1, d2] }
  | _ => none }
def fnTokenWholeAnswerRow : OpenClaim := { program := "qxb6601560a", sum := "543fdb4a8ad720ae0334cb78ff00f0ca76cd5fea982835bd0fff48df11b31608", func := "example.com/drossel/drossel/zzlaws_internal_accesslog_b1.FnTokenWholeAnswer", spec := "fnTokenWholeAnswer", apart := false }
def FnTokenWholeAnswerSaid : Prop := fnTokenWholeAnswerRow.holds Try.pinned (OpenSpec.ofChange fnTokenWholeAnswerSpec)

/-- ITS FALSE NEIGHBOUR: 'it returns false'. Refute it at one input. -/
def fnTokenWholeAnswerWrong : ChangeSpec := { name := "fnTokenWholeAnswer", fn := fun _ => fun
  | [d1, d2] => { results := [.lit (.bool false)], args := [d1, d2] }
  | _ => none }
def FnTokenWholeAnswerWrongFalsely : Prop := fnTokenWholeAnswerRow.holds Try.pinned (OpenSpec.ofChange fnTokenWholeAnswerWrong)

/-- 'zzlaws_internal_accesslog_b1.FnTokenScriptReadsEveryField': WHATEVER THE INPUT: true; the input reads as it did. -/
def fnTokenScriptReadsEveryFieldSpec : ChangeSpec := { name := "fnTokenScriptReadsEveryField", fn := fun _ => fun
  | [d] => { results := [.lit (.bool true)], args := [d] }
  | _ => none }
def fnTokenScriptReadsEveryFieldRow : OpenClaim := { program := "qxb6601560a", sum := "543fdb4a8ad720ae0334cb78ff00f0ca76cd5fea982835bd0fff48df11b31608", func := "example.com/drossel/drossel/zzlaws_internal_accesslog_b1.FnTokenScriptReadsEveryField", spec := "fnTokenScriptReadsEveryField", apart := false }
def FnTokenScriptReadsEveryFieldSaid : Prop := fnTokenScriptReadsEveryFieldRow.holds Try.pinned (OpenSpec.ofChange fnTokenScriptReadsEveryFieldSpec)

/-- ITS FALSE NEIGHBOUR: 'it returns false'. Refute it at one input. -/
def fnTokenScriptReadsEveryFieldWrong : ChangeSpec := { name := "fnTokenScriptReadsEveryField", fn := fun _ => fun
  | [d] => { results := [.lit (.bool false)], args := [d] }
  | _ => none }
def FnTokenScriptReadsEveryFieldWrongFalsely : Prop := fnTokenScriptReadsEveryFieldRow.holds Try.pinned (OpenSpec.ofChange fnTokenScriptReadsEveryFieldWrong)

/-- 'zzlaws_internal_accesslog_b1.FnQuotedWholeAnswer': WHATEVER THE INPUT: true; the input reads as it did. -/
def fnQuotedWholeAnswerSpec : ChangeSpec := { name := "fnQuotedWholeAnswer", fn := fun _ => fun
  | [d1, d2] => { results := [.lit (.bool true)], args := [d1, d2] }
  | _ => none }
def fnQuotedWholeAnswerRow : OpenClaim := { program := "qxb6601560a", sum := "543fdb4a8ad720ae0334cb78ff00f0ca76cd5fea982835bd0fff48df11b31608", func := "example.com/drossel/drossel/zzlaws_internal_accesslog_b1.FnQuotedWholeAnswer", spec := "fnQuotedWholeAnswer", apart := false }
def FnQuotedWholeAnswerSaid : Prop := fnQuotedWholeAnswerRow.holds Try.pinned (OpenSpec.ofChange fnQuotedWholeAnswerSpec)

/-- ITS FALSE NEIGHBOUR: 'it returns false'. Refute it at one input. -/
def fnQuotedWholeAnswerWrong : ChangeSpec := { name := "fnQuotedWholeAnswer", fn := fun _ => fun
  | [d1, d2] => { results := [.lit (.bool false)], args := [d1, d2] }
  | _ => none }
def FnQuotedWholeAnswerWrongFalsely : Prop := fnQuotedWholeAnswerRow.holds Try.pinned (OpenSpec.ofChange fnQuotedWholeAnswerWrong)

/-- 'zzlaws_internal_accesslog_b1.FnQuotedReadsEscapedValueWhole': WHATEVER THE INPUT: true; the input reads as it did. -/
def fnQuotedReadsEscapedValueWholeSpec : ChangeSpec := { name := "fnQuotedReadsEscapedValueWhole", fn := fun _ => fun
  | [d1, d2, d3] => { results := [.lit (.bool true)], args := [d1, d2, d3] }
  | _ => none }
def fnQuotedReadsEscapedValueWholeRow : OpenClaim := { program := "qxb6601560a", sum := "543fdb4a8ad720ae0334cb78ff00f0ca76cd5fea982835bd0fff48df11b31608", func := "example.com/drossel/drossel/zzlaws_internal_accesslog_b1.FnQuotedReadsEscapedValueWhole", spec := "fnQuotedReadsEscapedValueWhole", apart := false }
def FnQuotedReadsEscapedValueWholeSaid : Prop := fnQuotedReadsEscapedValueWholeRow.holds Try.pinned (OpenSpec.ofChange fnQuotedReadsEscapedValueWholeSpec)

/-- ITS FALSE NEIGHBOUR: 'it returns false'. Refute it at one input. -/
def fnQuotedReadsEscapedValueWholeWrong : ChangeSpec := { name := "fnQuotedReadsEscapedValueWhole", fn := fun _ => fun
  | [d1, d2, d3] => { results := [.lit (.bool false)], args := [d1, d2, d3] }
  | _ => none }
def FnQuotedReadsEscapedValueWholeWrongFalsely : Prop := fnQuotedReadsEscapedValueWholeRow.holds Try.pinned (OpenSpec.ofChange fnQuotedReadsEscapedValueWholeWrong)

/-- 'zzlaws_internal_accesslog_b1.FnSizeWholeAnswer': WHATEVER THE INPUT: true; the input reads as it did. -/
def fnSizeWholeAnswerSpec : ChangeSpec := { name := "fnSizeWholeAnswer", fn := fun _ => fun
  | [d1, d2] => { results := [.lit (.bool true)], args := [d1, d2] }
  | _ => none }
def fnSizeWholeAnswerRow : OpenClaim := { program := "qxb6601560a", sum := "543fdb4a8ad720ae0334cb78ff00f0ca76cd5fea982835bd0fff48df11b31608", func := "example.com/drossel/drossel/zzlaws_internal_accesslog_b1.FnSizeWholeAnswer", spec := "fnSizeWholeAnswer", apart := false }
def FnSizeWholeAnswerSaid : Prop := fnSizeWholeAnswerRow.holds Try.pinned (OpenSpec.ofChange fnSizeWholeAnswerSpec)

/-- ITS FALSE NEIGHBOUR: 'it returns false'. Refute it at one input. -/
def fnSizeWholeAnswerWrong : ChangeSpec := { name := "fnSizeWholeAnswer", fn := fun _ => fun
  | [d1, d2] => { results := [.lit (.bool false)], args := [d1, d2] }
  | _ => none }
def FnSizeWholeAnswerWrongFalsely : Prop := fnSizeWholeAnswerRow.holds Try.pinned (OpenSpec.ofChange fnSizeWholeAnswerWrong)

/-- 'zzlaws_internal_accesslog_b1.FnSizeReadsWrittenSize': WHATEVER THE INPUT: true; the input reads as it did. -/
def fnSizeReadsWrittenSizeSpec : ChangeSpec := { name := "fnSizeReadsWrittenSize", fn := fun _ => fun
  | [d1, d2, d3, d4] => { results := [.lit (.bool true)], args := [d1, d2, d3, d4] }
  | _ => none }
def fnSizeReadsWrittenSizeRow : OpenClaim := { program := "qxb6601560a", sum := "543fdb4a8ad720ae0334cb78ff00f0ca76cd5fea982835bd0fff48df11b31608", func := "example.com/drossel/drossel/zzlaws_internal_accesslog_b1.FnSizeReadsWrittenSize", spec := "fnSizeReadsWrittenSize", apart := false }
def FnSizeReadsWrittenSizeSaid : Prop := fnSizeReadsWrittenSizeRow.holds Try.pinned (OpenSpec.ofChange fnSizeReadsWrittenSizeSpec)

/-- ITS FALSE NEIGHBOUR: 'it returns false'. Refute it at one input. -/
def fnSizeReadsWrittenSizeWrong : ChangeSpec := { name := "fnSizeReadsWrittenSize", fn := fun _ => fun
  | [d1, d2, d3, d4] => { results := [.lit (.bool false)], args := [d1, d2, d3, d4] }
  | _ => none }
def FnSizeReadsWrittenSizeWrongFalsely : Prop := fnSizeReadsWrittenSizeRow.holds Try.pinned (OpenSpec.ofChange fnSizeReadsWrittenSizeWrong)

end Rows
end Go.Proofs.Qxb6601560a
