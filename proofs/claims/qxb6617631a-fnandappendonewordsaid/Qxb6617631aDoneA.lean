/-
  THE STATEMENT FnAndAppendOneWordSaid.
-/
import Derived.Test.Qxb6617631aProofA
import Derived.Test.Qxb6617631aJoin
namespace Go.Proofs.Qxb6617631a

theorem fnAndAppendOneWord_proved : Rows.FnAndAppendOneWordSaid := fnAndAppendOneWord.over joinSays

end Go.Proofs.Qxb6617631a
