/-
  THE STATEMENT FnAndFrontWordsSaid.
-/
import Derived.Test.Qxb6617631aProofB
import Derived.Test.Qxb6617631aJoin
namespace Go.Proofs.Qxb6617631a

theorem fnAndFrontWords_proved : Rows.FnAndFrontWordsSaid := fnAndFrontWords.over joinSays

end Go.Proofs.Qxb6617631a
