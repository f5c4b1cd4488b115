/-
  THE STATEMENT FnImpliedCommitsKindAtSaid.
-/
import Derived.Test.Qxb6618844aKindAt
import Derived.Test.Qxb6618844aFrame
namespace Go.Proofs.Qxb6618844a
theorem kindAtProved : Rows.FnImpliedCommitsKindAtSaid := row5 walk5
end Go.Proofs.Qxb6618844a
