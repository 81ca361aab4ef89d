/-
  What strings.Join's contract says, in the walks' words.
-/
import Derived.Test.Qxb6617631aShelf
import Derived.Test.Qxb6617631aAnd
namespace Go.Proofs.Qxb6617631a
open Go.RowKit

theorem joinSays : JoinSays := by
  intro bk o c xs sep w hcells hbk hN hcap hlen
  exact (Try.strings_Join bk o c xs sep w hcells hbk hN hcap hlen).mono fun e w' ⟨he, hb⟩ => ⟨_, he, rfl, hb⟩

end Go.Proofs.Qxb6617631a
