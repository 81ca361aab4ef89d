/-
  No cell of these rows narrows 'for every input' (looked for: loops, veiled, ifaces, maps, wideKeys, modest, calm, conditions, laid).
  DERIVED. THE GIVEN ROWS OF THIS SEAT. 1 by the template 'for every input the law returns true; each argument reads behind the call as it read before'; 0 by the template 'total and deterministic' (their statements: Qxb6617696aTotals.lean).
  GIVEN WITH THE SEED: the statements are not yours to turn. If you find one false, say at which input.
  Laid BY PROGRAM, IN A SANDBOX (cutbox-rows.mjs): the forced cells as the released guide's own fill.sh prints them over the translation bd60434c3ea13fdd… (all of the seat's roots in one cut). By AI agents, Wed Nov 11 2026. No macro, syntax, notation, axiom, sorry.
-/
import Derived.Test.Qxb6617696aChecked
import GoSem.Claim
import GoSem.ClaimJoined
import GoSem.ClaimMapViews
import Derived.JoinedTies
import Derived.KernelRfl
namespace Go.Proofs.Qxb6617696a
/- THE CELL 'sum', in the pinned program and in every row, IS THE sha256 OF THE DUMP (.gsa) THAT Qxb6617696aProg.lean LOADS. Nothing in Lean hashes anything: it is a label: what it is worth is what the hold of that sum in a sandbox is worth. -/
noncomputable def Try.pinned : Pinned := { name := "qxb6617696a", sum := "bd60434c3ea13fdd8f5d416e4ad79d86260c20d445478348e9873065f833f242", checked := Try.checked }
namespace Rows
def none {H : Type} : Left H := { results := [], args := [] }

/-- 'zzlaws_root_b1.FnNumberIsCappedDecimalValue': WHATEVER THE INPUT: true; the input reads as it did. -/
def fnNumberIsCappedDecimalValueSpec : ChangeSpec := { name := "fnNumberIsCappedDecimalValue", fn := fun _ => fun
  | [d1, d2] => { results := [.lit (.bool true)], args := [d1, d2] }
  | _ => none }
def fnNumberIsCappedDecimalValueRow : OpenClaim := { program := "qxb6617696a", sum := "bd60434c3ea13fdd8f5d416e4ad79d86260c20d445478348e9873065f833f242", func := "example.com/tickwright/tickwright/zzlaws_root_b1.FnNumberIsCappedDecimalValue", spec := "fnNumberIsCappedDecimalValue", apart := false }
def FnNumberIsCappedDecimalValueSaid : Prop := fnNumberIsCappedDecimalValueRow.holds Try.pinned (OpenSpec.ofChange fnNumberIsCappedDecimalValueSpec)

/-- ITS FALSE NEIGHBOUR: 'it returns false'. Refute it at one input. -/
def fnNumberIsCappedDecimalValueWrong : ChangeSpec := { name := "fnNumberIsCappedDecimalValue", fn := fun _ => fun
  | [d1, d2] => { results := [.lit (.bool false)], args := [d1, d2] }
  | _ => none }
def FnNumberIsCappedDecimalValueWrongFalsely : Prop := fnNumberIsCappedDecimalValueRow.holds Try.pinned (OpenSpec.ofChange fnNumberIsCappedDecimalValueWrong)

end Rows
end Go.Proofs.Qxb6617696a
