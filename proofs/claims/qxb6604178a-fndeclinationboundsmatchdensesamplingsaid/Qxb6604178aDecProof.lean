/-
  FnDeclinationBoundsMatchDenseSampling: the statement.
-/
import Derived.Test.Qxb6604178aDecD
import Derived.Test.Qxb6604178aNumI
namespace Go.Proofs.Qxb6604178a

theorem decProved : Rows.FnDeclinationBoundsMatchDenseSamplingSaid := Dec.over Fl.all_ok
#print axioms decProved
end Go.Proofs.Qxb6604178a
