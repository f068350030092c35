import Derived.Test.Qxb6604710aKN
import Derived.Test.Qxb6604710aP6
namespace Go.Proofs.Qxb6604710a
/-- THE STATEMENT -/
theorem fnPassKeepsNewest_proved : Rows.FnPassKeepsNewestSaid := fnPassKeepsNewest.over trim_said
end Go.Proofs.Qxb6604710a
