import Derived.Test.Qxb6604710aMM
import Derived.Test.Qxb6604710aP6
namespace Go.Proofs.Qxb6604710a
/-- THE STATEMENT -/
theorem fnPassMatchesModel_proved : Rows.FnPassMatchesModelSaid := fnPassMatchesModel.over trim_said
end Go.Proofs.Qxb6604710a
