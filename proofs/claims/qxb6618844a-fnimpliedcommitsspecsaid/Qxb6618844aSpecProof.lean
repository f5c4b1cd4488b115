/-
  THE STATEMENT FnImpliedCommitsSpecSaid.
-/
import Derived.Test.Qxb6618844aSpec
import Derived.Test.Qxb6618844aFrameS
namespace Go.Proofs.Qxb6618844a
theorem specProved : Rows.FnImpliedCommitsSpecSaid := row4 walk4
end Go.Proofs.Qxb6618844a
