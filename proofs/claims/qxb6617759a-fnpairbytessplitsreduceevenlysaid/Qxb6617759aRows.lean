/-
  No cell of these rows narrows 'for every input' (looked for: loops, veiled, ifaces, maps, wideKeys, modest, calm, conditions, laid).
  DERIVED. THE GIVEN ROWS OF THIS SEAT. 1 by the template 'for every input the law returns true; each argument reads behind the call as it read before'; 0 by the template 'total and deterministic' (their statements: Qxb6617759aTotals.lean).
  GIVEN WITH THE SEED: the statements are not yours to turn. If you find one false, say at which input.
  Laid BY PROGRAM, IN A SANDBOX (cutbox-rows.mjs): the forced cells as the released guide's own fill.sh prints them over the translation caa6b5d645d61c50… (all of the seat's roots in one cut). By AI agents, Wed Nov 11 2026. No macro, syntax, notation, axiom, sorry.
-/
import Derived.Test.Qxb6617759aChecked
import GoSem.Claim
import GoSem.ClaimJoined
import GoSem.ClaimMapViews
import Derived.JoinedTies
import Derived.KernelRfl
namespace Go.Proofs.Qxb6617759a
/- THE CELL 'sum', in the pinned program and in every row, IS THE sha256 OF THE DUMP (.gsa) THAT Qxb6617759aProg.lean LOADS. Nothing in Lean hashes anything: it is a label: what it is worth is what the hold of that sum in a sandbox is worth. -/
noncomputable def Try.pinned : Pinned := { name := "qxb6617759a", sum := "caa6b5d645d61c508b79c121247e2fd0f3e42dafd2fc92b7414909858e24b13a", checked := Try.checked }
namespace Rows
def none {H : Type} : Left H := { results := [], args := [] }

/-- 'zzlaws_internal_api_b1.FnPairBytesSplitsReduceEvenly': WHATEVER THE INPUT: true; the input reads as it did. -/
def fnPairBytesSplitsReduceEvenlySpec : ChangeSpec := { name := "fnPairBytesSplitsReduceEvenly", fn := fun _ => fun
  | [d1, d2, d3, d4] => { results := [.lit (.bool true)], args := [d1, d2, d3, d4] }
  | _ => none }
def fnPairBytesSplitsReduceEvenlyRow : OpenClaim := { program := "qxb6617759a", sum := "caa6b5d645d61c508b79c121247e2fd0f3e42dafd2fc92b7414909858e24b13a", func := "example.com/keelson/keelson/zzlaws_internal_api_b1.FnPairBytesSplitsReduceEvenly", spec := "fnPairBytesSplitsReduceEvenly", apart := false }
def FnPairBytesSplitsReduceEvenlySaid : Prop := fnPairBytesSplitsReduceEvenlyRow.holds Try.pinned (OpenSpec.ofChange fnPairBytesSplitsReduceEvenlySpec)

/-- ITS FALSE NEIGHBOUR: 'it returns false'. Refute it at one input. -/
def fnPairBytesSplitsReduceEvenlyWrong : ChangeSpec := { name := "fnPairBytesSplitsReduceEvenly", fn := fun _ => fun
  | [d1, d2, d3, d4] => { results := [.lit (.bool false)], args := [d1, d2, d3, d4] }
  | _ => none }
def FnPairBytesSplitsReduceEvenlyWrongFalsely : Prop := fnPairBytesSplitsReduceEvenlyRow.holds Try.pinned (OpenSpec.ofChange fnPairBytesSplitsReduceEvenlyWrong)

end Rows
end Go.Proofs.Qxb6617759a
