/-
  No cell of these rows narrows 'for every input' (looked for: loops, veiled, ifaces, maps, wideKeys, modest, calm, conditions, laid).
  DERIVED. THE GIVEN ROWS OF THIS SEAT. 2 by the template 'for every input the law returns true; each argument reads behind the call as it read before'; 0 by the template 'total and deterministic' (their statements: Qxb6617631aTotals.lean).
  GIVEN WITH THE SEED: the statements are not yours to turn. If you find one false, say at which input.
  Laid BY PROGRAM, IN A SANDBOX (cutbox-rows.mjs): the forced cells as the released guide's own fill.sh prints them over the translation ebd9d3600666e5cf… (all of the seat's roots in one cut). By AI agents, Wed Nov 11 2026. No macro, syntax, notation, axiom, sorry.
-/
import Derived.Test.Qxb6617631aChecked
import GoSem.Claim
import GoSem.ClaimJoined
import GoSem.ClaimMapViews
import Derived.JoinedTies
import Derived.KernelRfl
namespace Go.Proofs.Qxb6617631a
/- THE CELL 'sum', in the pinned program and in every row, IS THE sha256 OF THE DUMP (.gsa) THAT Qxb6617631aProg.lean LOADS. Nothing in Lean hashes anything: it is a label: what it is worth is what the hold of that sum in a sandbox is worth. -/
noncomputable def Try.pinned : Pinned := { name := "qxb6617631a", sum := "ebd9d3600666e5cfd37d99d4666f1da395e52ca52e64f589e02c2f15b1e3f42d", checked := Try.checked }
namespace Rows
def none {H : Type} : Left H := { results := [], args := [] }

/-- 'zzlaws_pipeline_b1.FnAndAppendOneWord': WHATEVER THE INPUT: true; the input reads as it did. -/
def fnAndAppendOneWordSpec : ChangeSpec := { name := "fnAndAppendOneWord", fn := fun _ => fun
  | [d1, d2] => { results := [.lit (.bool true)], args := [d1, d2] }
  | _ => none }
def fnAndAppendOneWordRow : OpenClaim := { program := "qxb6617631a", sum := "ebd9d3600666e5cfd37d99d4666f1da395e52ca52e64f589e02c2f15b1e3f42d", func := "example.com/readygate/readygate/zzlaws_pipeline_b1.FnAndAppendOneWord", spec := "fnAndAppendOneWord", inPlace := ["internal/abi.NoEscape", "internal/bytealg.MakeNoZero"], apart := false }
def FnAndAppendOneWordSaid : Prop := fnAndAppendOneWordRow.holds Try.pinned (OpenSpec.ofChange fnAndAppendOneWordSpec)

/-- ITS FALSE NEIGHBOUR: 'it returns false'. Refute it at one input. -/
def fnAndAppendOneWordWrong : ChangeSpec := { name := "fnAndAppendOneWord", fn := fun _ => fun
  | [d1, d2] => { results := [.lit (.bool false)], args := [d1, d2] }
  | _ => none }
def FnAndAppendOneWordWrongFalsely : Prop := fnAndAppendOneWordRow.holds Try.pinned (OpenSpec.ofChange fnAndAppendOneWordWrong)

/-- 'zzlaws_pipeline_b1.FnAndFrontWords': WHATEVER THE INPUT: true; the input reads as it did. -/
def fnAndFrontWordsSpec : ChangeSpec := { name := "fnAndFrontWords", fn := fun _ => fun
  | [d1, d2] => { results := [.lit (.bool true)], args := [d1, d2] }
  | _ => none }
def fnAndFrontWordsRow : OpenClaim := { program := "qxb6617631a", sum := "ebd9d3600666e5cfd37d99d4666f1da395e52ca52e64f589e02c2f15b1e3f42d", func := "example.com/readygate/readygate/zzlaws_pipeline_b1.FnAndFrontWords", spec := "fnAndFrontWords", inPlace := ["internal/abi.NoEscape", "internal/bytealg.MakeNoZero"], apart := false }
def FnAndFrontWordsSaid : Prop := fnAndFrontWordsRow.holds Try.pinned (OpenSpec.ofChange fnAndFrontWordsSpec)

/-- ITS FALSE NEIGHBOUR: 'it returns false'. Refute it at one input. -/
def fnAndFrontWordsWrong : ChangeSpec := { name := "fnAndFrontWords", fn := fun _ => fun
  | [d1, d2] => { results := [.lit (.bool false)], args := [d1, d2] }
  | _ => none }
def FnAndFrontWordsWrongFalsely : Prop := fnAndFrontWordsRow.holds Try.pinned (OpenSpec.ofChange fnAndFrontWordsWrong)

end Rows
end Go.Proofs.Qxb6617631a
