/-
  No cell of these rows narrows 'for every input' (looked for: loops, veiled, ifaces, maps, wideKeys, modest, calm, conditions, laid).
  DERIVED. THE GIVEN ROWS OF THIS SEAT. 1 by the template 'for every input the law returns true; each argument reads behind the call as it read before'; 0 by the template 'total and deterministic' (their statements: Qxb6617720aTotals.lean).
  GIVEN WITH THE SEED: the statements are not yours to turn. If you find one false, say at which input.
  Laid BY PROGRAM, IN A SANDBOX (cutbox-rows.mjs): the forced cells as the released guide's own fill.sh prints them over the translation 9e8b923d4ab48634… (all of the seat's roots in one cut). By AI agents, Wed Nov 11 2026. No macro, syntax, notation, axiom, sorry.
-/
import Derived.Test.Qxb6617720aChecked
import GoSem.Claim
import GoSem.ClaimJoined
import GoSem.ClaimMapViews
import Derived.JoinedTies
import Derived.KernelRfl
namespace Go.Proofs.Qxb6617720a
/- THE CELL 'sum', in the pinned program and in every row, IS THE sha256 OF THE DUMP (.gsa) THAT Qxb6617720aProg.lean LOADS. Nothing in Lean hashes anything: it is a label: what it is worth is what the hold of that sum in a sandbox is worth. -/
noncomputable def Try.pinned : Pinned := { name := "qxb6617720a", sum := "9e8b923d4ab48634a532edb998a1a0612e3a914cc3f98706fb67bfa3148419a5", checked := Try.checked }
namespace Rows
def none {H : Type} : Left H := { results := [], args := [] }

/-- 'zzlaws_fixedwidth_b1.FnNewRecordSplitsAtAnyCut': WHATEVER THE INPUT: true; the input reads as it did. -/
def fnNewRecordSplitsAtAnyCutSpec : ChangeSpec := { name := "fnNewRecordSplitsAtAnyCut", fn := fun _ => fun
  | [d1, d2] => { results := [.lit (.bool true)], args := [d1, d2] }
  | _ => none }
def fnNewRecordSplitsAtAnyCutRow : OpenClaim := { program := "qxb6617720a", sum := "9e8b923d4ab48634a532edb998a1a0612e3a914cc3f98706fb67bfa3148419a5", func := "example.com/tallywire/tallywire/zzlaws_fixedwidth_b1.FnNewRecordSplitsAtAnyCut", spec := "fnNewRecordSplitsAtAnyCut", apart := false }
def FnNewRecordSplitsAtAnyCutSaid : Prop := fnNewRecordSplitsAtAnyCutRow.holds Try.pinned (OpenSpec.ofChange fnNewRecordSplitsAtAnyCutSpec)

/-- ITS FALSE NEIGHBOUR: 'it returns false'. Refute it at one input. -/
def fnNewRecordSplitsAtAnyCutWrong : ChangeSpec := { name := "fnNewRecordSplitsAtAnyCut", fn := fun _ => fun
  | [d1, d2] => { results := [.lit (.bool false)], args := [d1, d2] }
  | _ => none }
def FnNewRecordSplitsAtAnyCutWrongFalsely : Prop := fnNewRecordSplitsAtAnyCutRow.holds Try.pinned (OpenSpec.ofChange fnNewRecordSplitsAtAnyCutWrong)

end Rows
end Go.Proofs.Qxb6617720a
