/-
  No cell of these rows narrows 'for every input' (looked for: loops, veiled, ifaces, maps, wideKeys, modest, calm, conditions, laid).
  DERIVED. THE GIVEN ROWS OF THIS SEAT. 3 by the template 'for every input the law returns true; each argument reads behind the call as it read before'; 0 by the template 'total and deterministic' (their statements: Qxb6602101aTotals.lean).
  GIVEN WITH THE SEED: the statements are not yours to turn. If you find one false, say at which input.
  Laid BY PROGRAM, IN A SANDBOX (cutbox-rows.mjs): the forced cells as the released guide's own fill.sh prints them over the translation 98101efe2667ee1e… (all of the seat's roots in one cut). By AI agents, Wed Nov 11 2026. No macro, syntax, notation, axiom, sorry.
-/
import Derived.Test.Qxb6602101aChecked
import GoSem.Claim
import GoSem.ClaimJoined
import GoSem.ClaimMapViews
import Derived.JoinedTies
import Derived.KernelRfl
namespace Go.Proofs.Qxb6602101a
/- THE CELL 'sum', in the pinned program and in every row, IS THE sha256 OF THE DUMP (.gsa) THAT Qxb6602101aProg.lean LOADS. Nothing in Lean hashes anything: it is a label: what it is worth is what the hold of that sum in a sandbox is worth. -/
noncomputable def Try.pinned : Pinned := { name := "qxb6602101a", sum := "98101efe2667ee1e29bd1d45aa9dbf141fecdbb22dd68295e5eaff345b8ea67a", checked := Try.checked }
namespace Rows
def none {H : Type} : Left H := { results := [], args := [] }

/-- 'zzlaws_ignore_b1.FnDistanceMatchesSuffixTable': WHATEVER THE INPUT: true; the input reads as it did. -/
def fnDistanceMatchesSuffixTableSpec : ChangeSpec := { name := "fnDistanceMatchesSuffixTable", fn := fun _ => fun
  | [d1, d2] => { results := [.lit (.bool true)], args := [d1, d2] }
  | _ => none }
def fnDistanceMatchesSuffixTableRow : OpenClaim := { program := "qxb6602101a", sum := "98101efe2667ee1e29bd1d45aa9dbf141fecdbb22dd68295e5eaff345b8ea67a", func := "example.com/lencap/lencap/zzlaws_ignore_b1.FnDistanceMatchesSuffixTable", spec := "fnDistanceMatchesSuffixTable", apart := false }
def FnDistanceMatchesSuffixTableSaid : Prop := fnDistanceMatchesSuffixTableRow.holds Try.pinned (OpenSpec.ofChange fnDistanceMatchesSuffixTableSpec)

/-- ITS FALSE NEIGHBOUR: 'it returns false'. Refute it at one input. -/
def fnDistanceMatchesSuffixTableWrong : ChangeSpec := { name := "fnDistanceMatchesSuffixTable", fn := fun _ => fun
  | [d1, d2] => { results := [.lit (.bool false)], args := [d1, d2] }
  | _ => none }
def FnDistanceMatchesSuffixTableWrongFalsely : Prop := fnDistanceMatchesSuffixTableRow.holds Try.pinned (OpenSpec.ofChange fnDistanceMatchesSuffixTableWrong)

/-- 'zzlaws_ignore_b1.FnDistanceSymmetricAndBounded': WHATEVER THE INPUT: true; the input reads as it did. -/
def fnDistanceSymmetricAndBoundedSpec : ChangeSpec := { name := "fnDistanceSymmetricAndBounded", fn := fun _ => fun
  | [d1, d2] => { results := [.lit (.bool true)], args := [d1, d2] }
  | _ => none }
def fnDistanceSymmetricAndBoundedRow : OpenClaim := { program := "qxb6602101a", sum := "98101efe2667ee1e29bd1d45aa9dbf141fecdbb22dd68295e5eaff345b8ea67a", func := "example.com/lencap/lencap/zzlaws_ignore_b1.FnDistanceSymmetricAndBounded", spec := "fnDistanceSymmetricAndBounded", apart := false }
def FnDistanceSymmetricAndBoundedSaid : Prop := fnDistanceSymmetricAndBoundedRow.holds Try.pinned (OpenSpec.ofChange fnDistanceSymmetricAndBoundedSpec)

/-- ITS FALSE NEIGHBOUR: 'it returns false'. Refute it at one input. -/
def fnDistanceSymmetricAndBoundedWrong : ChangeSpec := { name := "fnDistanceSymmetricAndBounded", fn := fun _ => fun
  | [d1, d2] => { results := [.lit (.bool false)], args := [d1, d2] }
  | _ => none }
def FnDistanceSymmetricAndBoundedWrongFalsely : Prop := fnDistanceSymmetricAndBoundedRow.holds Try.pinned (OpenSpec.ofChange fnDistanceSymmetricAndBoundedWrong)

/-- 'zzlaws_ignore_b1.FnDistanceTriangle': WHATEVER THE INPUT: true; the input reads as it did. -/
def fnDistanceTriangleSpec : ChangeSpec := { name := "fnDistanceTriangle", fn := fun _ => fun
  | [d1, d2, d3] => { results := [.lit (.bool true)], args := [d1, d2, d3] }
  | _ => none }
def fnDistanceTriangleRow : OpenClaim := { program := "qxb6602101a", sum := "98101efe2667ee1e29bd1d45aa9dbf141fecdbb22dd68295e5eaff345b8ea67a", func := "example.com/lencap/lencap/zzlaws_ignore_b1.FnDistanceTriangle", spec := "fnDistanceTriangle", apart := false }
def FnDistanceTriangleSaid : Prop := fnDistanceTriangleRow.holds Try.pinned (OpenSpec.ofChange fnDistanceTriangleSpec)

/-- ITS FALSE NEIGHBOUR: 'it returns false'. Refute it at one input. -/
def fnDistanceTriangleWrong : ChangeSpec := { name := "fnDistanceTriangle", fn := fun _ => fun
  | [d1, d2, d3] => { results := [.lit (.bool false)], args := [d1, d2, d3] }
  | _ => none }
def FnDistanceTriangleWrongFalsely : Prop := fnDistanceTriangleRow.holds Try.pinned (OpenSpec.ofChange fnDistanceTriangleWrong)

end Rows
end Go.Proofs.Qxb6602101a
